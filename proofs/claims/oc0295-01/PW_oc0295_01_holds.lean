import PyProof.Rows.All
import Wide.All
import OpenK.AllK
import Wide.FinOn
import PySem.Challenge.RW_oc0295_01
set_option Elab.async false
set_option compiler.extract_closed false
set_option maxRecDepth 100000
set_option maxHeartbeats 8000000
set_option rowWalk.seconds 0
namespace Mine
open PySem PySem.W PyProof.Rows PySem.Calls
local macro_rules | `(tactic| k_all) => `(tactic| assumption)
local macro_rules | `(tactic| k_room) => `(tactic| ((try simp only [depth_under_make, depth_under_kw, depth_in1, depth_deeper, depth_caller]); (try dsimp only); omega))
local macro_rules | `(tactic| k_enter) => `(tactic| (refine' code_def ?k1 ?k2 ?k3 ?k4 ?k5 ?kA ?kF ?kK ?k6 ?k7 ?k8 ?k9 ?kB ?_ ?c2 ?c3 ?c4 ?c5; (case kA => exact rfl); (case kF => exact rfl); (case kK => first | exact rfl | assumption); (case k1 => k_asm); (case k2 => k_asm); (case k3 => k_asm); (case k4 => k_asm); (case k5 => k_asm); (case k6 => k_is); (case k7 => k_is); (case k8 => k_room); (case k9 => first | exact BindsTo.of_eq rfl | exact binds_K (by k_in) rfl (by k_is) rfl rfl rfl | fail "k_enter: no rule for these arguments"); (case c5 => decide); (case kB => exact locs rfl); (case c2 => exact rfl); (case c3 => exact rfl); (case c4 => exact rfl); k_whole; intro g' L' h' FG' F' N' B' X' T'; (try dsimp only); (try k_lift B'); (try k_fold)))
section


/-! ## the top's run over a tree of objects, in one check -/
def topRunT (tb : String → Option Builtin) (p : Program) (w : World) (n₀ : Nat) (ann : Option Value) : Nat → SharedT → Thread → Option SharedT
  | 0, _, _ => none
  | n + 1, s, t => match through t with
    | true => some s
    | false => match stepOk n₀ ann t with
      | false => none
      | true => match stepT (denote tb) p w s t with
        | some (s', t') => topRunT tb p w n₀ ann n s' t'
        | none => none

theorem topRunT_of {tb : String → Option Builtin} {p : Program} {w : World} {n₀ : Nat} {ann : Option Value} : ∀ {n : Nat} {s s' : SharedT} {t : Thread},
    topRunT tb p w n₀ ann n s t = some s' → topRun tb p w n₀ ann n s.abs t = some s'.abs
  | 0, _, _, _, h => by cases h
  | n + 1, s, s', t, h => by
    unfold topRunT at h
    unfold topRun
    cases ht : through t with
    | true => rw [ht] at h; cases h; rfl
    | false =>
      rw [ht] at h
      cases hk : stepOk n₀ ann t with
      | false => rw [hk] at h; cases h
      | true =>
        rw [hk] at h
        cases hs : stepT (denote tb) p w s t with
        | none => rw [hs] at h; cases h
        | some r => obtain ⟨s₂, t₂⟩ := r; rw [hs] at h; dsimp only; rw [stepT_spec hs]; exact topRunT_of h

/-- the same over the library's quick twins -/
noncomputable def topRunQ (p : Program) (w : World) (n₀ : Nat) (ann : Option Value) : Nat → SharedT → Thread → Option SharedT
  | 0, _, _ => none
  | n + 1, s, t => match through t with
    | true => some s
    | false => match PySem.W.Fast.tw6613529449190102663 n₀ ann t with
      | false => none
      | true => match PySem.W.Fast.tw10156331382660048174 (PySem.W.Fast.tw11892475500146522536 PySem.W.Fast.tw14364793385576792824) p w s t with
        | some (s', t') => topRunQ p w n₀ ann n s' t'
        | none => none
theorem topRunQ_eq {p : Program} {w : World} {n₀ : Nat} {ann : Option Value} : ∀ (n : Nat) (s : SharedT) (t : Thread), topRunQ p w n₀ ann n s t = topRunT treeTable p w n₀ ann n s t
  | 0, _, _ => rfl
  | n + 1, s, t => by
    unfold topRunQ topRunT
    rw [← PySem.W.Fast.te6613529449190102663, ← PySem.W.Fast.te10156331382660048174, ← PySem.W.Fast.te11892475500146522536, ← PySem.W.Fast.te14364793385576792824]
    cases through t with
    | true => rfl
    | false =>
      cases stepOk n₀ ann t with
      | false => rfl
      | true =>
        dsimp only
        cases stepT (denote treeTable) p w s t with
        | none => rfl
        | some r => obtain ⟨s', t'⟩ := r; exact topRunQ_eq n s' t'

def toTs : List Obj → BT → Nat → Option (BT × Nat)
  | [], T, n => some (T, n)
  | o :: r, T, n => match ((T.ins n o).get n).isSome with
    | true => toTs r (T.ins n o) (n + 1)
    | false => none
theorem toTs_of {life : Life} : ∀ {l : List Obj} {T T' : BT} {n n' : Nat}, toTs l T n = some (T', n') → absHeap T' n' life = ⟨(absHeap T n life).objs ++ l.toArray, life⟩
  | [], T, T', n, n', h => by
    cases h
    show Heap.mk _ _ = Heap.mk _ _
    simp
    rfl
  | o :: r, T, T', n, n', h => by
    unfold toTs at h
    cases hk : ((T.ins n o).get n).isSome with
    | false => rw [hk] at h; cases h
    | true =>
      rw [hk] at h
      rw [toTs_of h, absHeap_ins hk]
      show Heap.mk ((absHeap T n life).objs.push o ++ r.toArray) life = _
      congr 1
      simp
def toT? (s : Shared) : Option SharedT := match toTs s.heap.objs.toList .nil 0 with
  | some (T, n) => some ⟨T, n, s.heap.life, s.gens, s.drawn, s.toks, s.os⟩
  | none => none
theorem toT?_abs {s : Shared} {S : SharedT} (h : toT? s = some S) : S.abs = s := by
  unfold toT? at h
  cases hk : toTs s.heap.objs.toList .nil 0 with
  | none => rw [hk] at h; cases h
  | some r =>
    obtain ⟨T, n⟩ := r
    rw [hk] at h
    cases h
    obtain ⟨heap, gens, drawn, toks, os⟩ := s
    obtain ⟨objs, life⟩ := heap
    have := toTs_of (life := life) hk
    unfold SharedT.abs
    dsimp only at this ⊢
    rw [this]
    have e0 : (absHeap BT.nil 0 life).objs = #[] := rfl
    rw [e0]
    simp


end
section

/-! ## the texts of the defs, taken out of the row's own term -/
def nth : List Stmt → Nat → Stmt
  | s :: _, 0 => s
  | _ :: r, n + 1 => nth r n
  | [], _ => .Pass default
def clsBody : Stmt → List Stmt
  | .ClassDef _ _ _ b _ _ _ _ _ _ _ => b
  | _ => []
structure FnAst where
  params : Arguments
  body : List Stmt
  scope : Scope
def fnAst : Stmt → FnAst
  | .FunctionDef _ a b _ _ _ sc _ _ _ => ⟨a, b, sc⟩
  | _ => ⟨default, [], default⟩
@[reducible] noncomputable def cap57 : { f : FnAst // fnAst (nth PySem.Challenge.pw_oc0295_01.main.body 6) = f } := by
  refine' ⟨_, _⟩
  rotate_left
  conv => lhs; whnf
@[reducible] noncomputable def cap76 : { f : FnAst // fnAst (nth PySem.Challenge.pw_oc0295_01.main.body 10) = f } := by
  refine' ⟨_, _⟩
  rotate_left
  conv => lhs; whnf
@[reducible] noncomputable def cap103 : { f : FnAst // fnAst (nth (clsBody (nth PySem.Challenge.pw_oc0295_01.main.body 12)) 1) = f } := by
  refine' ⟨_, _⟩
  rotate_left
  conv => lhs; whnf
@[reducible] noncomputable def cap380 : { f : FnAst // fnAst (nth (clsBody (nth PySem.Challenge.pw_oc0295_01.main.body 16)) 1) = f } := by
  refine' ⟨_, _⟩
  rotate_left
  conv => lhs; whnf
@[reducible] noncomputable def cap387 : { f : FnAst // fnAst (nth (clsBody (nth PySem.Challenge.pw_oc0295_01.main.body 16)) 2) = f } := by
  refine' ⟨_, _⟩
  rotate_left
  conv => lhs; whnf
@[reducible] noncomputable def cap394 : { f : FnAst // fnAst (nth (clsBody (nth PySem.Challenge.pw_oc0295_01.main.body 16)) 3) = f } := by
  refine' ⟨_, _⟩
  rotate_left
  conv => lhs; whnf
@[reducible] noncomputable def cap556 : { f : FnAst // fnAst (nth (clsBody (nth PySem.Challenge.pw_oc0295_01.main.body 16)) 25) = f } := by
  refine' ⟨_, _⟩
  rotate_left
  conv => lhs; whnf
@[reducible] noncomputable def cap669 : { f : FnAst // fnAst (nth (clsBody (nth PySem.Challenge.pw_oc0295_01.main.body 26)) 0) = f } := by
  refine' ⟨_, _⟩
  rotate_left
  conv => lhs; whnf
@[reducible] noncomputable def cap676 : { f : FnAst // fnAst (nth (clsBody (nth PySem.Challenge.pw_oc0295_01.main.body 26)) 1) = f } := by
  refine' ⟨_, _⟩
  rotate_left
  conv => lhs; whnf
@[reducible] noncomputable def cap706 : { f : FnAst // fnAst (nth (clsBody (nth PySem.Challenge.pw_oc0295_01.main.body 26)) 5) = f } := by
  refine' ⟨_, _⟩
  rotate_left
  conv => lhs; whnf
@[reducible] noncomputable def cap713 : { f : FnAst // fnAst (nth (clsBody (nth PySem.Challenge.pw_oc0295_01.main.body 26)) 6) = f } := by
  refine' ⟨_, _⟩
  rotate_left
  conv => lhs; whnf
@[reducible] noncomputable def cap735 : { f : FnAst // fnAst (nth (clsBody (nth PySem.Challenge.pw_oc0295_01.main.body 26)) 9) = f } := by
  refine' ⟨_, _⟩
  rotate_left
  conv => lhs; whnf
@[reducible] noncomputable def cap742 : { f : FnAst // fnAst (nth (clsBody (nth PySem.Challenge.pw_oc0295_01.main.body 26)) 10) = f } := by
  refine' ⟨_, _⟩
  rotate_left
  conv => lhs; whnf
@[reducible] noncomputable def cap757 : { f : FnAst // fnAst (nth PySem.Challenge.pw_oc0295_01.main.body 27) = f } := by
  refine' ⟨_, _⟩
  rotate_left
  conv => lhs; whnf
@[reducible] noncomputable def cap764 : { f : FnAst // fnAst (nth PySem.Challenge.pw_oc0295_01.main.body 28) = f } := by
  refine' ⟨_, _⟩
  rotate_left
  conv => lhs; whnf
@[reducible] noncomputable def cap772 : { f : FnAst // fnAst (nth PySem.Challenge.pw_oc0295_01.main.body 31) = f } := by
  refine' ⟨_, _⟩
  rotate_left
  conv => lhs; whnf
@[reducible] noncomputable def cap779 : { f : FnAst // fnAst (nth PySem.Challenge.pw_oc0295_01.main.body 33) = f } := by
  refine' ⟨_, _⟩
  rotate_left
  conv => lhs; whnf
@[reducible] noncomputable def cap819 : { f : FnAst // fnAst (nth PySem.Challenge.pw_oc0295_01.main.body 54) = f } := by
  refine' ⟨_, _⟩
  rotate_left
  conv => lhs; whnf
@[reducible] noncomputable def cap826 : { f : FnAst // fnAst (nth PySem.Challenge.pw_oc0295_01.main.body 56) = f } := by
  refine' ⟨_, _⟩
  rotate_left
  conv => lhs; whnf
@[reducible] noncomputable def cap833 : { f : FnAst // fnAst (nth PySem.Challenge.pw_oc0295_01.main.body 57) = f } := by
  refine' ⟨_, _⟩
  rotate_left
  conv => lhs; whnf
@[reducible] noncomputable def cap840 : { f : FnAst // fnAst (nth PySem.Challenge.pw_oc0295_01.main.body 58) = f } := by
  refine' ⟨_, _⟩
  rotate_left
  conv => lhs; whnf
@[reducible] noncomputable def cap847 : { f : FnAst // fnAst (nth PySem.Challenge.pw_oc0295_01.main.body 59) = f } := by
  refine' ⟨_, _⟩
  rotate_left
  conv => lhs; whnf
@[reducible] noncomputable def cap852 : { f : FnAst // fnAst (nth PySem.Challenge.pw_oc0295_01.main.body 60) = f } := by
  refine' ⟨_, _⟩
  rotate_left
  conv => lhs; whnf
@[reducible] noncomputable def cap859 : { f : FnAst // fnAst (nth PySem.Challenge.pw_oc0295_01.main.body 61) = f } := by
  refine' ⟨_, _⟩
  rotate_left
  conv => lhs; whnf
@[reducible] noncomputable def cap864 : { f : FnAst // fnAst (nth PySem.Challenge.pw_oc0295_01.main.body 62) = f } := by
  refine' ⟨_, _⟩
  rotate_left
  conv => lhs; whnf

/-! ## the part of the top's heap that the call reads -/
@[reducible] def sV (s : String) (t : Nat) : Value := .str (Str.ofString s) t
@[reducible] def iV (i : Int) (t : Nat) : Value := .int i t
@[reducible] def en (P : Params) (n : String) (t : Nat) (v : Value) : DictEntry := ⟨PyData.keyHash P (Str.ofString n), .str (Str.ofString n) t, v⟩
noncomputable def K (P : Params) : Frag :=
  (nat_lit 2, ⟨.none, none, .dict ⟨en P "\x69mport.loaded._sre" 183 (.bool true) ::
    en P "class._frozen_importlib.BuiltinImporter" 185 (.ref 14) ::
    en P "watched.\x69mport" 206 (.ref 18) ::
    en P "class._frozen_importlib.ModuleSpec" 216 (.ref 22) ::
    en P "sys.modules.booked-epoch" 245 (iV (4) 0) ::
    en P "\x69mport.later-laid._sre" 270 (.bool true) ::
    en P "watched.library" 272 (.ref 27) ::
    en P "watched.library-objects" 0 (sV "\x0c\x1e" 0) ::
    en P "watched.library-deep._sre" 273 (sV "\x04\x00\x00\x0b\x04\x00\x00\x0b\x04\x00\x00\x03\x04\x00\x00\x0b\x08\x04dict\x02" 0) ::
    en P "\x69mport.loaded._collections" 280 (.bool true) ::
    en P "sys.modules.landed._collections" 294 (.bool true) ::
    en P "\x69mport.later-laid._collections" 309 (.bool true) ::
    en P "watched.library-deep._collections" 311 (sV "\x04\x00\x00\x1d\x04\x00\x00\x1d\x04\x00\x00\x03\x04\x00\x00\x1d\x08\x04dict\x02" 0) ::
    en P "type.__subclasses__.OSError.0" 504 (iV (86) 0) ::
    en P "type.__subclasses__.OSError.n" 505 (iV (1) 0) ::
    []⟩ 15, #[]⟩) ::
  (nat_lit 3, ⟨.type "dict", none, .dict ⟨en P "__name__" 165 (sV "law_oc0295_01" 1437) ::
    en P "__doc__" 166 (.none) ::
    en P "__package__" 167 (.none) ::
    en P "__loader__" 168 (.builtin "__main__.__loader__#opaque") ::
    en P "__spec__" 169 (.none) ::
    en P "__annotations__" 170 (.ref 6) ::
    en P "__builtins__" 171 (.ref 4) ::
    en P "__file__" 173 (sV "/claim/cut.py" 172) ::
    en P "__cached__" 174 (.none) ::
    en P "_sre" 275 (.ref 12) ::
    en P "deque" 317 (.type "collections.deque") ::
    en P "_wall" 330 (.ref 44) ::
    en P "UTC_ZONES" 341 (.ref 45) ::
    en P "TIMEZONE_RE" 418 (.ref 50) ::
    en P "offset_from_tz_string" 427 (.ref 57) ::
    en P "_twin_re_1" 467 (.ref 62) ::
    en P "_whence" 477 (.ref 69) ::
    en P "_index" 485 (.ref 76) ::
    en P "UnsupportedOperation" 507 (.ref 86) ::
    en P "IOBase" 539 (.ref 106) ::
    en P "BufferedIOBase" 557 (.ref 121) ::
    en P "TextIOBase" 575 (.ref 133) ::
    en P "BytesIO" 837 (.ref 363) ::
    en P "StringIO" 1124 (.ref 610) ::
    en P "_kind" 1135 (.ref 619) ::
    en P "_fspath" 1144 (.ref 626) ::
    en P "_check_arg_types" 1154 (.ref 633) ::
    en P "isabs" 1161 (.ref 640) ::
    en P "join" 1172 (.ref 764) ::
    en P "join_path" 1173 (.ref 647) ::
    en P "dirname" 1183 (.ref 654) ::
    en P "shlex" 1324 (.ref 745) ::
    en P "split" 1334 (.ref 757) ::
    en P "join_shlex" 1342 (.ref 764) ::
    en P "_find_unsafe" 1344 (.ref 765) ::
    en P "quote" 1351 (.ref 772) ::
    en P "S_IFMT" 1360 (.ref 779) ::
    en P "S_IFDIR" 1362 (iV (16384) 1361) ::
    en P "S_IFCHR" 1364 (iV (8192) 1363) ::
    en P "S_IFBLK" 1366 (iV (24576) 1365) ::
    en P "S_IFREG" 1368 (iV (32768) 1367) ::
    en P "S_IFIFO" 1370 (iV (4096) 1369) ::
    en P "S_IFLNK" 1372 (iV (40960) 1371) ::
    en P "S_IFSOCK" 1374 (iV (49152) 1373) ::
    en P "S_ISUID" 1376 (iV (2048) 1375) ::
    en P "S_ISGID" 1378 (iV (1024) 1377) ::
    en P "S_ISVTX" 1380 (iV (512) 1379) ::
    en P "S_IRUSR" 1382 (iV (256) 1381) ::
    en P "S_IWUSR" 1384 (iV (128) 1383) ::
    en P "S_IXUSR" 1386 (iV (64) 1385) ::
    en P "S_IRGRP" 1388 (iV (32) 1387) ::
    en P "S_IWGRP" 1390 (iV (16) 1389) ::
    en P "S_IXGRP" 1392 (iV (8) 1391) ::
    en P "S_IROTH" 1394 (iV (4) 1393) ::
    en P "S_IWOTH" 1396 (iV (2) 1395) ::
    en P "S_IXOTH" 1398 (iV (1) 1397) ::
    en P "_filemode_table" 1424 (.ref 812) ::
    en P "filemode" 1436 (.ref 819) ::
    en P "_law_clock" 1448 (.ref 826) ::
    en P "_law_spelled" 1456 (.ref 833) ::
    en P "_law_figures" 1467 (.ref 840) ::
    en P "_law_compared" 1475 (.ref 847) ::
    en P "_law_by_figures" 1481 (.ref 852) ::
    en P "_law_due" 1489 (.ref 859) ::
    en P "law" 1495 (.ref 864) ::
    []⟩ 65, #[]⟩) ::
  (nat_lit 45, ⟨.type "dict", none, .dict ⟨en P "GMT" 333 (.none) ::
    en P "UTC" 334 (.none) ::
    en P "UT" 335 (.none) ::
    en P "Z" 336 (.none) ::
    []⟩ 4, #[]⟩) ::
  (nat_lit 49, ⟨.type "tuple", none, .seq #[iV (14) 0, iV (4) 0, iV (0) 0, iV (1) 0, iV (6) 0, iV (6) 0, iV (0) 0, iV (23) 0, iV (14) 0, iV (0) 0, iV (1) 0, iV (17) 0, iV (0) 0, iV (13) 0, iV (6) 0, iV (16) 0, iV (45) 0, iV (16) 0, iV (43) 0, iV (0) 0, iV (17) 0, iV (1) 0, iV (18) 0, iV (17) 0, iV (2) 0, iV (13) 0, iV (4) 0, iV (8) 0, iV (0) 0, iV (0) 0, iV (24) 0, iV (9) 0, iV (0) 0, iV (1) 0, iV (13) 0, iV (4) 0, iV (8) 0, iV (0) 0, iV (0) 0, iV (1) 0, iV (17) 0, iV (3) 0, iV (24) 0, iV (6) 0, iV (0) 0, iV (1) 0, iV (16) 0, iV (58) 0, iV (1) 0, iV (23) 0, iV (17) 0, iV (0) 0, iV (1) 0, iV (17) 0, iV (4) 0, iV (13) 0, iV (4) 0, iV (8) 0, iV (0) 0, iV (0) 0, iV (13) 0, iV (4) 0, iV (8) 0, iV (0) 0, iV (0) 0, iV (17) 0, iV (5) 0, iV (18) 0, iV (6) 0, iV (5) 0, iV (1) 0] 0, #[]⟩) ::
  (nat_lit 50, ⟨.type "re.Pattern", none, .fields #[sV "^([-+])?(\\d\\d?):?(\\d\\d)?$" 343, iV (256) 417, iV (3) 0, .none, .none, .ref 49, iV (0) 0], #[]⟩) ::
  (nat_lit 56, ⟨.type "code", none, .fields #[sV "offset_from_tz_string" 419, sV "offset_from_tz_string" 420, sV "/claim/cut.py" 421, iV (9) 0, iV (1) 0, iV (0) 0, iV (0) 0, iV (3) 0, .ref 51, .bool true, iV (318) 0, .ref 52, .none, .ref 53, .ref 54, .ref 55, iV (425) 0, iV (9) 0, sV "/claim/cut.py" 426], #[]⟩) ::
  (nat_lit 57, ⟨.type "function", none, .func (fnOf (Str.ofString "offset_from_tz_string") (Str.ofString "offset_from_tz_string") cap57.1.params cap57.1.body cap57.1.scope (.none) (.none) (.none) (sV "cpy313.http.cookiejar" 331) none (.ref 56) .none), #[]⟩) ::
  (nat_lit 61, ⟨.type "tuple", none, .seq #[iV (14) 0, iV (17) 0, iV (4) 0, iV (1) 0, iV (1) 0, iV (21) 0, iV (9) 0, iV (0) 0, iV (604043296) 0, iV (1) 0, iV (0) 0, iV (0) 0, iV (0) 0, iV (0) 0, iV (0) 0, iV (8) 0, iV (4) 0, iV (0) 0, iV (13) 0, iV (14) 0, iV (21) 0, iV (9) 0, iV (0) 0, iV (604043296) 0, iV (1) 0, iV (0) 0, iV (0) 0, iV (0) 0, iV (0) 0, iV (0) 0, iV (8) 0, iV (4) 0, iV (0) 0, iV (1) 0] 0, #[]⟩) ::
  (nat_lit 62, ⟨.type "re.Pattern", none, .fields #[sV "[^\\w@%+=:,./-]" 429, iV (256) 466, iV (0) 0, .none, .none, .ref 61, iV (0) 0], #[]⟩) ::
  (nat_lit 75, ⟨.type "code", none, .fields #[sV "_index" 478, sV "_index" 479, sV "/claim/cut.py" 480, iV (29) 0, iV (2) 0, iV (0) 0, iV (0) 0, iV (3) 0, .ref 70, .bool true, iV (318) 0, .ref 71, .none, .ref 72, .ref 73, .ref 74, iV (483) 0, iV (29) 0, sV "/claim/cut.py" 484], #[]⟩) ::
  (nat_lit 76, ⟨.type "function", none, .func (fnOf (Str.ofString "_index") (Str.ofString "_index") cap76.1.params cap76.1.body cap76.1.scope (.none) (.none) (.none) (sV "io" 468) none (.ref 75) .none), #[]⟩) ::
  (nat_lit 102, ⟨.type "code", none, .fields #[sV "__new__" 522, sV "IOBase.__new__" 523, sV "/claim/cut.py" 524, iV (41) 0, iV (1) 0, iV (1) 0, iV (0) 0, iV (15) 0, .ref 97, .bool true, iV (318) 0, .ref 98, .none, .ref 99, .ref 100, .ref 101, iV (528) 0, iV (41) 0, sV "/claim/cut.py" 529], #[]⟩) ::
  (nat_lit 103, ⟨.type "function", none, .func (fnOf (Str.ofString "__new__") (Str.ofString "IOBase.__new__") cap103.1.params cap103.1.body cap103.1.scope (.none) (.none) (.none) (sV "io" 468) none (.ref 102) .none), #[]⟩) ::
  (nat_lit 105, ⟨.type "dict", none, .dict ⟨en P "__module__" 515 (sV "io" 520) ::
    en P "__firstlineno__" 519 (iV (38) 518) ::
    en P "__new__" 530 (.ref 107) ::
    en P "__static_attributes__" 531 (.ref 104) ::
    en P "__dict__" 534 (.ref 108) ::
    en P "__weakref__" 536 (.ref 109) ::
    en P "__doc__" 537 (.none) ::
    []⟩ 4, #[]⟩) ::
  (nat_lit 106, ⟨.type "type", none, .cls { name := Str.ofString "IOBase", bases := [.type "object"], mro := [.ref 106, .type "object"], ns := 105, qualname := Str.ofString "IOBase", hasDict := true, slotNames := [], subclasses := [.ref 121, .ref 133], abstract := false, collection := none, hasDel := false }, #[none, none, some (sV "IOBase" 508), some (sV "IOBase" 516), some (.none), some (.bool true)]⟩) ::
  (nat_lit 107, ⟨.type "staticmethod", none, .fields #[.ref 103], #[]⟩) ::
  (nat_lit 132, ⟨.type "dict", none, .dict ⟨en P "__module__" 565 (sV "io" 570) ::
    en P "__firstlineno__" 569 (iV (47) 568) ::
    en P "__static_attributes__" 572 (.ref 131) ::
    en P "__doc__" 573 (.none) ::
    []⟩ 2, #[]⟩) ::
  (nat_lit 133, ⟨.type "type", none, .cls { name := Str.ofString "TextIOBase", bases := [.ref 106], mro := [.ref 133, .ref 106, .type "object"], ns := 132, qualname := Str.ofString "TextIOBase", hasDict := true, slotNames := [], subclasses := [.ref 610], abstract := false, collection := none, hasDel := false }, #[some (.ref 124), none, some (sV "TextIOBase" 558), some (sV "TextIOBase" 566), some (.none), some (.bool true)]⟩) ::
  (nat_lit 363, ⟨.type "type", none, .cls { name := Str.ofString "BytesIO", bases := [.ref 121], mro := [.ref 363, .ref 121, .ref 106, .type "object"], ns := 362, qualname := Str.ofString "BytesIO", hasDict := true, slotNames := [], subclasses := [], abstract := false, collection := none, hasDel := false }, #[some (.ref 136), none, some (sV "BytesIO" 576), some (sV "BytesIO" 584), some (.none), some (.bool true)]⟩) ::
  (nat_lit 373, ⟨.type "tuple", none, .seq #[sV "" 852, sV "\n" 853] 0, #[]⟩) ::
  (nat_lit 379, ⟨.type "code", none, .fields #[sV "__init__" 854, sV "StringIO.__init__" 855, sV "/claim/cut.py" 856, iV (222) 0, iV (3) 0, iV (0) 0, iV (0) 0, iV (3) 0, .ref 374, .bool true, iV (318) 0, .ref 375, .none, .ref 376, .ref 377, .ref 378, iV (860) 0, iV (222) 0, sV "/claim/cut.py" 861], #[]⟩) ::
  (nat_lit 380, ⟨.type "function", none, .func (fnOf (Str.ofString "__init__") (Str.ofString "StringIO.__init__") cap380.1.params cap380.1.body cap380.1.scope (.ref 373) (.none) (.none) (sV "io" 468) none (.ref 379) .none), #[]⟩) ::
  (nat_lit 386, ⟨.type "code", none, .fields #[sV "__translated" 863, sV "StringIO.__translated" 864, sV "/claim/cut.py" 865, iV (235) 0, iV (2) 0, iV (0) 0, iV (0) 0, iV (3) 0, .ref 381, .bool true, iV (318) 0, .ref 382, .none, .ref 383, .ref 384, .ref 385, iV (869) 0, iV (235) 0, sV "/claim/cut.py" 870], #[]⟩) ::
  (nat_lit 387, ⟨.type "function", none, .func (fnOf (Str.ofString "__translated") (Str.ofString "StringIO.__translated") cap387.1.params cap387.1.body cap387.1.scope (.none) (.none) (.none) (sV "io" 468) none (.ref 386) .none), #[]⟩) ::
  (nat_lit 393, ⟨.type "code", none, .fields #[sV "__check" 872, sV "StringIO.__check" 873, sV "/claim/cut.py" 874, iV (243) 0, iV (1) 0, iV (0) 0, iV (0) 0, iV (3) 0, .ref 388, .bool true, iV (318) 0, .ref 389, .none, .ref 390, .ref 391, .ref 392, iV (876) 0, iV (243) 0, sV "/claim/cut.py" 877], #[]⟩) ::
  (nat_lit 394, ⟨.type "function", none, .func (fnOf (Str.ofString "__check") (Str.ofString "StringIO.__check") cap394.1.params cap394.1.body cap394.1.scope (.none) (.none) (.none) (sV "io" 468) none (.ref 393) .none), #[]⟩) ::
  (nat_lit 549, ⟨.type "tuple", none, .seq #[iV (-1) 1045] 0, #[]⟩) ::
  (nat_lit 555, ⟨.type "code", none, .fields #[sV "read" 1046, sV "StringIO.read" 1047, sV "/claim/cut.py" 1048, iV (365) 0, iV (2) 0, iV (2) 0, iV (0) 0, iV (3) 0, .ref 550, .bool true, iV (318) 0, .ref 551, .none, .ref 552, .ref 553, .ref 554, iV (1053) 0, iV (365) 0, sV "/claim/cut.py" 1054], #[]⟩) ::
  (nat_lit 556, ⟨.type "function", none, .func (fnOf (Str.ofString "read") (Str.ofString "StringIO.read") cap556.1.params cap556.1.body cap556.1.scope (.ref 549) (.none) (.none) (sV "io" 468) none (.ref 555) .none), #[]⟩) ::
  (nat_lit 609, ⟨.type "dict", none, .dict ⟨en P "__module__" 845 (sV "_io" 850) ::
    en P "__firstlineno__" 849 (iV (219) 848) ::
    en P "__init__" 862 (.ref 380) ::
    en P "_StringIO__translated" 871 (.ref 387) ::
    en P "_StringIO__check" 878 (.ref 394) ::
    en P "_StringIO__check_dot" 885 (.ref 401) ::
    en P "_StringIO__line" 900 (.ref 408) ::
    en P "closed" 908 (.ref 416) ::
    en P "line_buffering" 916 (.ref 424) ::
    en P "newlines" 924 (.ref 432) ::
    en P "encoding" 932 (.ref 440) ::
    en P "errors" 940 (.ref 448) ::
    en P "close" 947 (.ref 455) ::
    en P "__enter__" 954 (.ref 462) ::
    en P "__exit__" 962 (.ref 469) ::
    en P "readable" 969 (.ref 476) ::
    en P "writable" 976 (.ref 483) ::
    en P "seekable" 983 (.ref 490) ::
    en P "isatty" 990 (.ref 497) ::
    en P "flush" 997 (.ref 504) ::
    en P "fileno" 1004 (.ref 511) ::
    en P "detach" 1011 (.ref 518) ::
    en P "getvalue" 1018 (.ref 525) ::
    en P "tell" 1025 (.ref 532) ::
    en P "seek" 1035 (.ref 540) ::
    en P "truncate" 1043 (.ref 548) ::
    en P "read" 1055 (.ref 556) ::
    en P "readline" 1065 (.ref 564) ::
    en P "readlines" 1075 (.ref 572) ::
    en P "__iter__" 1082 (.ref 579) ::
    en P "__next__" 1090 (.ref 586) ::
    en P "write" 1102 (.ref 593) ::
    en P "writelines" 1110 (.ref 600) ::
    en P "__repr__" 1117 (.ref 607) ::
    en P "__static_attributes__" 1121 (.ref 608) ::
    en P "__doc__" 1122 (.none) ::
    []⟩ 2, #[]⟩) ::
  (nat_lit 610, ⟨.type "type", none, .cls { name := Str.ofString "StringIO", bases := [.ref 133], mro := [.ref 610, .ref 133, .ref 106, .type "object"], ns := 609, qualname := Str.ofString "StringIO", hasDict := true, slotNames := [], subclasses := [], abstract := false, collection := none, hasDel := false }, #[some (.ref 366), none, some (sV "StringIO" 838), some (sV "StringIO" 846), some (.none), some (.bool true)]⟩) ::
  (nat_lit 662, ⟨.type "tuple", none, .seq #[.none, .none, .bool false, .bool false] 0, #[]⟩) ::
  (nat_lit 668, ⟨.type "code", none, .fields #[sV "__init__" 1198, sV "shlex.__init__" 1199, sV "/claim/cut.py" 1200, iV (491) 0, iV (5) 0, iV (0) 0, iV (0) 0, iV (3) 0, .ref 663, .bool true, iV (318) 0, .ref 664, .none, .ref 665, .ref 666, .ref 667, iV (1207) 0, iV (491) 0, sV "/claim/cut.py" 1208], #[]⟩) ::
  (nat_lit 669, ⟨.type "function", none, .func (fnOf (Str.ofString "__init__") (Str.ofString "shlex.__init__") cap669.1.params cap669.1.body cap669.1.scope (.ref 662) (.none) (.none) (sV "cpy313.shlex" 1184) none (.ref 668) .none), #[]⟩) ::
  (nat_lit 675, ⟨.type "code", none, .fields #[sV "punctuation_chars" 1210, sV "shlex.punctuation_chars" 1211, sV "/claim/cut.py" 1212, iV (532) 0, iV (1) 0, iV (0) 0, iV (0) 0, iV (3) 0, .ref 670, .bool true, iV (318) 0, .ref 671, .none, .ref 672, .ref 673, .ref 674, iV (1214) 0, iV (532) 0, sV "/claim/cut.py" 1215], #[]⟩) ::
  (nat_lit 676, ⟨.type "function", none, .func (fnOf (Str.ofString "punctuation_chars") (Str.ofString "shlex.punctuation_chars") cap676.1.params cap676.1.body cap676.1.scope (.none) (.none) (.none) (sV "cpy313.shlex" 1184) none (.ref 675) .none), #[]⟩) ::
  (nat_lit 677, ⟨.type "property", none, .fields #[.ref 676, .none, .none, .none, sV "punctuation_chars" 1217, .bool false], #[]⟩) ::
  (nat_lit 705, ⟨.type "code", none, .fields #[sV "get_token" 1242, sV "shlex.get_token" 1243, sV "/claim/cut.py" 1244, iV (559) 0, iV (1) 0, iV (0) 0, iV (0) 0, iV (3) 0, .ref 700, .bool true, iV (318) 0, .ref 701, .none, .ref 702, .ref 703, .ref 704, iV (1251) 0, iV (559) 0, sV "/claim/cut.py" 1252], #[]⟩) ::
  (nat_lit 706, ⟨.type "function", none, .func (fnOf (Str.ofString "get_token") (Str.ofString "shlex.get_token") cap706.1.params cap706.1.body cap706.1.scope (.none) (.none) (.none) (sV "cpy313.shlex" 1184) none (.ref 705) .none), #[]⟩) ::
  (nat_lit 712, ⟨.type "code", none, .fields #[sV "read_token" 1254, sV "shlex.read_token" 1255, sV "/claim/cut.py" 1256, iV (586) 0, iV (1) 0, iV (0) 0, iV (0) 0, iV (3) 0, .ref 707, .bool true, iV (318) 0, .ref 708, .none, .ref 709, .ref 710, .ref 711, iV (1262) 0, iV (586) 0, sV "/claim/cut.py" 1263], #[]⟩) ::
  (nat_lit 713, ⟨.type "function", none, .func (fnOf (Str.ofString "read_token") (Str.ofString "shlex.read_token") cap713.1.params cap713.1.body cap713.1.scope (.none) (.none) (.none) (sV "cpy313.shlex" 1184) none (.ref 712) .none), #[]⟩) ::
  (nat_lit 734, ⟨.type "code", none, .fields #[sV "__iter__" 1282, sV "shlex.__iter__" 1283, sV "/claim/cut.py" 1284, iV (733) 0, iV (1) 0, iV (0) 0, iV (0) 0, iV (3) 0, .ref 729, .bool true, iV (318) 0, .ref 730, .none, .ref 731, .ref 732, .ref 733, iV (1286) 0, iV (733) 0, sV "/claim/cut.py" 1287], #[]⟩) ::
  (nat_lit 735, ⟨.type "function", none, .func (fnOf (Str.ofString "__iter__") (Str.ofString "shlex.__iter__") cap735.1.params cap735.1.body cap735.1.scope (.none) (.none) (.none) (sV "cpy313.shlex" 1184) none (.ref 734) .none), #[]⟩) ::
  (nat_lit 741, ⟨.type "code", none, .fields #[sV "__next__" 1289, sV "shlex.__next__" 1290, sV "/claim/cut.py" 1291, iV (736) 0, iV (1) 0, iV (0) 0, iV (0) 0, iV (3) 0, .ref 736, .bool true, iV (318) 0, .ref 737, .none, .ref 738, .ref 739, .ref 740, iV (1294) 0, iV (736) 0, sV "/claim/cut.py" 1295], #[]⟩) ::
  (nat_lit 742, ⟨.type "function", none, .func (fnOf (Str.ofString "__next__") (Str.ofString "shlex.__next__") cap742.1.params cap742.1.body cap742.1.scope (.none) (.none) (.none) (sV "cpy313.shlex" 1184) none (.ref 741) .none), #[]⟩) ::
  (nat_lit 744, ⟨.type "dict", none, .dict ⟨en P "__module__" 1193 (sV "cpy313.shlex" 1184) ::
    en P "__firstlineno__" 1197 (iV (489) 1196) ::
    en P "__init__" 1209 (.ref 669) ::
    en P "punctuation_chars" 1217 (.ref 677) ::
    en P "push_token" 1225 (.ref 684) ::
    en P "push_source" 1234 (.ref 692) ::
    en P "pop_source" 1241 (.ref 699) ::
    en P "get_token" 1253 (.ref 706) ::
    en P "read_token" 1264 (.ref 713) ::
    en P "sourcehook" 1272 (.ref 720) ::
    en P "error_leader" 1281 (.ref 728) ::
    en P "__iter__" 1288 (.ref 735) ::
    en P "__next__" 1296 (.ref 742) ::
    en P "__static_attributes__" 1317 (.ref 743) ::
    en P "__dict__" 1319 (.ref 746) ::
    en P "__weakref__" 1321 (.ref 747) ::
    en P "__doc__" 1322 (.none) ::
    []⟩ 4, #[]⟩) ::
  (nat_lit 745, ⟨.type "type", none, .cls { name := Str.ofString "shlex", bases := [.type "object"], mro := [.ref 745, .type "object"], ns := 744, qualname := Str.ofString "shlex", hasDict := true, slotNames := [], subclasses := [], abstract := false, collection := none, hasDel := false }, #[none, none, some (sV "shlex" 1186), some (sV "shlex" 1194), some (.builtin "object.__new__"), some (.bool true)]⟩) ::
  (nat_lit 750, ⟨.type "tuple", none, .seq #[.bool false, .bool true] 0, #[]⟩) ::
  (nat_lit 756, ⟨.type "code", none, .fields #[sV "split" 1325, sV "split" 1326, sV "/claim/cut.py" 1327, iV (741) 0, iV (3) 0, iV (0) 0, iV (0) 0, iV (3) 0, .ref 751, .bool true, iV (318) 0, .ref 752, .none, .ref 753, .ref 754, .ref 755, iV (1332) 0, iV (741) 0, sV "/claim/cut.py" 1333], #[]⟩) ::
  (nat_lit 757, ⟨.type "function", none, .func (fnOf (Str.ofString "split") (Str.ofString "split") cap757.1.params cap757.1.body cap757.1.scope (.ref 750) (.none) (.none) (sV "cpy313.shlex" 1184) none (.ref 756) .none), #[]⟩) ::
  (nat_lit 763, ⟨.type "code", none, .fields #[sV "join" 1335, sV "join" 1336, sV "/claim/cut.py" 1337, iV (749) 0, iV (1) 0, iV (0) 0, iV (0) 0, iV (3) 0, .ref 758, .bool true, iV (318) 0, .ref 759, .none, .ref 760, .ref 761, .ref 762, iV (1339) 0, iV (749) 0, sV "/claim/cut.py" 1340], #[]⟩) ::
  (nat_lit 764, ⟨.type "function", none, .func (fnOf (Str.ofString "join") (Str.ofString "join") cap764.1.params cap764.1.body cap764.1.scope (.none) (.none) (.none) (sV "cpy313.shlex" 1184) none (.ref 763) .none), #[]⟩) ::
  (nat_lit 765, ⟨.type "builtin_function_or_method", none, .fields #[.builtin "re.Pattern.search", .ref 62], #[]⟩) ::
  (nat_lit 771, ⟨.type "code", none, .fields #[sV "quote" 1345, sV "quote" 1346, sV "/claim/cut.py" 1347, iV (753) 0, iV (1) 0, iV (0) 0, iV (0) 0, iV (3) 0, .ref 766, .bool true, iV (318) 0, .ref 767, .none, .ref 768, .ref 769, .ref 770, iV (1349) 0, iV (753) 0, sV "/claim/cut.py" 1350], #[]⟩) ::
  (nat_lit 772, ⟨.type "function", none, .func (fnOf (Str.ofString "quote") (Str.ofString "quote") cap772.1.params cap772.1.body cap772.1.scope (.none) (.none) (.none) (sV "cpy313.shlex" 1184) none (.ref 771) .none), #[]⟩) ::
  (nat_lit 778, ⟨.type "code", none, .fields #[sV "S_IFMT" 1354, sV "S_IFMT" 1355, sV "/claim/cut.py" 1356, iV (760) 0, iV (1) 0, iV (0) 0, iV (0) 0, iV (3) 0, .ref 773, .bool true, iV (318) 0, .ref 774, .none, .ref 775, .ref 776, .ref 777, iV (1358) 0, iV (760) 0, sV "/claim/cut.py" 1359], #[]⟩) ::
  (nat_lit 779, ⟨.type "function", none, .func (fnOf (Str.ofString "S_IFMT") (Str.ofString "S_IFMT") cap779.1.params cap779.1.body cap779.1.scope (.none) (.none) (.none) (sV "cpy313.stat" 1352) none (.ref 778) .none), #[]⟩) ::
  (nat_lit 780, ⟨.type "tuple", none, .seq #[iV (40960) 1371, sV "l" 1399] 0, #[]⟩) ::
  (nat_lit 781, ⟨.type "tuple", none, .seq #[iV (49152) 1373, sV "s" 1400] 0, #[]⟩) ::
  (nat_lit 782, ⟨.type "tuple", none, .seq #[iV (32768) 1367, sV "-" 1401] 0, #[]⟩) ::
  (nat_lit 783, ⟨.type "tuple", none, .seq #[iV (24576) 1365, sV "b" 1402] 0, #[]⟩) ::
  (nat_lit 784, ⟨.type "tuple", none, .seq #[iV (16384) 1361, sV "d" 1403] 0, #[]⟩) ::
  (nat_lit 785, ⟨.type "tuple", none, .seq #[iV (8192) 1363, sV "c" 1404] 0, #[]⟩) ::
  (nat_lit 786, ⟨.type "tuple", none, .seq #[iV (4096) 1369, sV "p" 1405] 0, #[]⟩) ::
  (nat_lit 787, ⟨.type "tuple", none, .seq #[.ref 780, .ref 781, .ref 782, .ref 783, .ref 784, .ref 785, .ref 786] 0, #[]⟩) ::
  (nat_lit 788, ⟨.type "tuple", none, .seq #[iV (256) 1381, sV "r" 1406] 0, #[]⟩) ::
  (nat_lit 789, ⟨.type "tuple", none, .seq #[.ref 788] 0, #[]⟩) ::
  (nat_lit 790, ⟨.type "tuple", none, .seq #[iV (128) 1383, sV "w" 1407] 0, #[]⟩) ::
  (nat_lit 791, ⟨.type "tuple", none, .seq #[.ref 790] 0, #[]⟩) ::
  (nat_lit 792, ⟨.type "tuple", none, .seq #[iV (2112) 1408, sV "s" 1409] 0, #[]⟩) ::
  (nat_lit 793, ⟨.type "tuple", none, .seq #[iV (2048) 1375, sV "S" 1410] 0, #[]⟩) ::
  (nat_lit 794, ⟨.type "tuple", none, .seq #[iV (64) 1385, sV "x" 1411] 0, #[]⟩) ::
  (nat_lit 795, ⟨.type "tuple", none, .seq #[.ref 792, .ref 793, .ref 794] 0, #[]⟩) ::
  (nat_lit 796, ⟨.type "tuple", none, .seq #[iV (32) 1387, sV "r" 1412] 0, #[]⟩) ::
  (nat_lit 797, ⟨.type "tuple", none, .seq #[.ref 796] 0, #[]⟩) ::
  (nat_lit 798, ⟨.type "tuple", none, .seq #[iV (16) 1389, sV "w" 1413] 0, #[]⟩) ::
  (nat_lit 799, ⟨.type "tuple", none, .seq #[.ref 798] 0, #[]⟩) ::
  (nat_lit 800, ⟨.type "tuple", none, .seq #[iV (1032) 1414, sV "s" 1415] 0, #[]⟩) ::
  (nat_lit 801, ⟨.type "tuple", none, .seq #[iV (1024) 1377, sV "S" 1416] 0, #[]⟩) ::
  (nat_lit 802, ⟨.type "tuple", none, .seq #[iV (8) 1391, sV "x" 1417] 0, #[]⟩) ::
  (nat_lit 803, ⟨.type "tuple", none, .seq #[.ref 800, .ref 801, .ref 802] 0, #[]⟩) ::
  (nat_lit 804, ⟨.type "tuple", none, .seq #[iV (4) 1393, sV "r" 1418] 0, #[]⟩) ::
  (nat_lit 805, ⟨.type "tuple", none, .seq #[.ref 804] 0, #[]⟩) ::
  (nat_lit 806, ⟨.type "tuple", none, .seq #[iV (2) 1395, sV "w" 1419] 0, #[]⟩) ::
  (nat_lit 807, ⟨.type "tuple", none, .seq #[.ref 806] 0, #[]⟩) ::
  (nat_lit 808, ⟨.type "tuple", none, .seq #[iV (513) 1420, sV "t" 1421] 0, #[]⟩) ::
  (nat_lit 809, ⟨.type "tuple", none, .seq #[iV (512) 1379, sV "T" 1422] 0, #[]⟩) ::
  (nat_lit 810, ⟨.type "tuple", none, .seq #[iV (1) 1397, sV "x" 1423] 0, #[]⟩) ::
  (nat_lit 811, ⟨.type "tuple", none, .seq #[.ref 808, .ref 809, .ref 810] 0, #[]⟩) ::
  (nat_lit 812, ⟨.type "tuple", none, .seq #[.ref 787, .ref 789, .ref 791, .ref 795, .ref 797, .ref 799, .ref 803, .ref 805, .ref 807, .ref 811] 0, #[]⟩) ::
  (nat_lit 818, ⟨.type "code", none, .fields #[sV "filemode" 1425, sV "filemode" 1426, sV "/claim/cut.py" 1427, iV (782) 0, iV (1) 0, iV (0) 0, iV (0) 0, iV (3) 0, .ref 813, .bool true, iV (318) 0, .ref 814, .none, .ref 815, .ref 816, .ref 817, iV (1434) 0, iV (782) 0, sV "/claim/cut.py" 1435], #[]⟩) ::
  (nat_lit 819, ⟨.type "function", none, .func (fnOf (Str.ofString "filemode") (Str.ofString "filemode") cap819.1.params cap819.1.body cap819.1.scope (.none) (.none) (.none) (sV "cpy313.stat" 1352) none (.ref 818) .none), #[]⟩) ::
  (nat_lit 825, ⟨.type "code", none, .fields #[sV "_law_clock" 1439, sV "_law_clock" 1440, sV "/claim/cut.py" 1441, iV (800) 0, iV (2) 0, iV (0) 0, iV (0) 0, iV (3) 0, .ref 820, .bool true, iV (318) 0, .ref 821, .none, .ref 822, .ref 823, .ref 824, iV (1446) 0, iV (800) 0, sV "/claim/cut.py" 1447], #[]⟩) ::
  (nat_lit 826, ⟨.type "function", none, .func (fnOf (Str.ofString "_law_clock") (Str.ofString "_law_clock") cap826.1.params cap826.1.body cap826.1.scope (.none) (.none) (.none) (sV "law_oc0295_01" 1437) none (.ref 825) .none), #[]⟩) ::
  (nat_lit 832, ⟨.type "code", none, .fields #[sV "_law_spelled" 1449, sV "_law_spelled" 1450, sV "/claim/cut.py" 1451, iV (806) 0, iV (2) 0, iV (0) 0, iV (0) 0, iV (3) 0, .ref 827, .bool true, iV (318) 0, .ref 828, .none, .ref 829, .ref 830, .ref 831, iV (1454) 0, iV (806) 0, sV "/claim/cut.py" 1455], #[]⟩) ::
  (nat_lit 833, ⟨.type "function", none, .func (fnOf (Str.ofString "_law_spelled") (Str.ofString "_law_spelled") cap833.1.params cap833.1.body cap833.1.scope (.none) (.none) (.none) (sV "law_oc0295_01" 1437) none (.ref 832) .none), #[]⟩) ::
  (nat_lit 839, ⟨.type "code", none, .fields #[sV "_law_figures" 1457, sV "_law_figures" 1458, sV "/claim/cut.py" 1459, iV (814) 0, iV (1) 0, iV (0) 0, iV (0) 0, iV (3) 0, .ref 834, .bool true, iV (318) 0, .ref 835, .none, .ref 836, .ref 837, .ref 838, iV (1465) 0, iV (814) 0, sV "/claim/cut.py" 1466], #[]⟩) ::
  (nat_lit 840, ⟨.type "function", none, .func (fnOf (Str.ofString "_law_figures") (Str.ofString "_law_figures") cap840.1.params cap840.1.body cap840.1.scope (.none) (.none) (.none) (sV "law_oc0295_01" 1437) none (.ref 839) .none), #[]⟩) ::
  (nat_lit 846, ⟨.type "code", none, .fields #[sV "_law_compared" 1468, sV "_law_compared" 1469, sV "/claim/cut.py" 1470, iV (822) 0, iV (2) 0, iV (0) 0, iV (0) 0, iV (3) 0, .ref 841, .bool true, iV (318) 0, .ref 842, .none, .ref 843, .ref 844, .ref 845, iV (1473) 0, iV (822) 0, sV "/claim/cut.py" 1474], #[]⟩) ::
  (nat_lit 847, ⟨.type "function", none, .func (fnOf (Str.ofString "_law_compared") (Str.ofString "_law_compared") cap847.1.params cap847.1.body cap847.1.scope (.none) (.none) (.none) (sV "law_oc0295_01" 1437) none (.ref 846) .none), #[]⟩) ::
  (nat_lit 851, ⟨.type "code", none, .fields #[sV "_law_by_figures" 1476, sV "_law_by_figures" 1477, sV "/claim/cut.py" 1478, iV (828) 0, iV (2) 0, iV (0) 0, iV (0) 0, iV (3) 0, .ref 848, .bool true, iV (318) 0, .ref 849, .none, .none, .none, .ref 850, iV (1479) 0, iV (828) 0, sV "/claim/cut.py" 1480], #[]⟩) ::
  (nat_lit 852, ⟨.type "function", none, .func (fnOf (Str.ofString "_law_by_figures") (Str.ofString "_law_by_figures") cap852.1.params cap852.1.body cap852.1.scope (.none) (.none) (.none) (sV "law_oc0295_01" 1437) none (.ref 851) .none), #[]⟩) ::
  (nat_lit 858, ⟨.type "code", none, .fields #[sV "_law_due" 1482, sV "_law_due" 1483, sV "/claim/cut.py" 1484, iV (841) 0, iV (2) 0, iV (0) 0, iV (0) 0, iV (3) 0, .ref 853, .bool true, iV (318) 0, .ref 854, .none, .ref 855, .ref 856, .ref 857, iV (1487) 0, iV (841) 0, sV "/claim/cut.py" 1488], #[]⟩) ::
  (nat_lit 859, ⟨.type "function", none, .func (fnOf (Str.ofString "_law_due") (Str.ofString "_law_due") cap859.1.params cap859.1.body cap859.1.scope (.none) (.none) (.none) (sV "law_oc0295_01" 1437) none (.ref 858) .none), #[]⟩) ::
  (nat_lit 863, ⟨.type "code", none, .fields #[sV "law" 1490, sV "law" 1491, sV "/claim/cut.py" 1492, iV (849) 0, iV (1) 0, iV (0) 0, iV (0) 0, iV (3) 0, .ref 860, .bool true, iV (318) 0, .ref 861, .none, .none, .none, .ref 862, iV (1493) 0, iV (849) 0, sV "/claim/cut.py" 1494], #[]⟩) ::
  (nat_lit 864, ⟨.type "function", none, .func (fnOf (Str.ofString "law") (Str.ofString "law") cap864.1.params cap864.1.body cap864.1.scope (.none) (.none) (.none) (sV "law_oc0295_01" 1437) none (.ref 863) .none), #[]⟩) ::
  []
def Kas : List Addr := nat_lit 2 :: nat_lit 3 :: nat_lit 45 :: nat_lit 49 :: nat_lit 50 :: nat_lit 56 :: nat_lit 57 :: nat_lit 61 :: nat_lit 62 :: nat_lit 75 :: nat_lit 76 :: nat_lit 102 :: nat_lit 103 :: nat_lit 105 :: nat_lit 106 :: nat_lit 107 :: nat_lit 132 :: nat_lit 133 :: nat_lit 363 :: nat_lit 373 :: nat_lit 379 :: nat_lit 380 :: nat_lit 386 :: nat_lit 387 :: nat_lit 393 :: nat_lit 394 :: nat_lit 549 :: nat_lit 555 :: nat_lit 556 :: nat_lit 609 :: nat_lit 610 :: nat_lit 662 :: nat_lit 668 :: nat_lit 669 :: nat_lit 675 :: nat_lit 676 :: nat_lit 677 :: nat_lit 705 :: nat_lit 706 :: nat_lit 712 :: nat_lit 713 :: nat_lit 734 :: nat_lit 735 :: nat_lit 741 :: nat_lit 742 :: nat_lit 744 :: nat_lit 745 :: nat_lit 750 :: nat_lit 756 :: nat_lit 757 :: nat_lit 763 :: nat_lit 764 :: nat_lit 765 :: nat_lit 771 :: nat_lit 772 :: nat_lit 778 :: nat_lit 779 :: nat_lit 780 :: nat_lit 781 :: nat_lit 782 :: nat_lit 783 :: nat_lit 784 :: nat_lit 785 :: nat_lit 786 :: nat_lit 787 :: nat_lit 788 :: nat_lit 789 :: nat_lit 790 :: nat_lit 791 :: nat_lit 792 :: nat_lit 793 :: nat_lit 794 :: nat_lit 795 :: nat_lit 796 :: nat_lit 797 :: nat_lit 798 :: nat_lit 799 :: nat_lit 800 :: nat_lit 801 :: nat_lit 802 :: nat_lit 803 :: nat_lit 804 :: nat_lit 805 :: nat_lit 806 :: nat_lit 807 :: nat_lit 808 :: nat_lit 809 :: nat_lit 810 :: nat_lit 811 :: nat_lit 812 :: nat_lit 818 :: nat_lit 819 :: nat_lit 825 :: nat_lit 826 :: nat_lit 832 :: nat_lit 833 :: nat_lit 839 :: nat_lit 840 :: nat_lit 846 :: nat_lit 847 :: nat_lit 851 :: nat_lit 852 :: nat_lit 858 :: nat_lit 859 :: nat_lit 863 :: nat_lit 864 :: []
theorem Kas_eq (P : Params) : Kas = (K P).map (·.1) := by kernel_rfl

end
section


set_option maxRecDepth 1000000
/-! ## the head: what the top leaves, by one check a row of the world's -/
@[reducible] noncomputable def capLaw : { s : Stmt // nth PySem.Challenge.pw_oc0295_01.main.body 62 = s } := by
  refine' ⟨_, _⟩
  rotate_left
  conv => lhs; whnf
noncomputable def q0 : Program := { PySem.Challenge.pw_oc0295_01 with main := { PySem.Challenge.pw_oc0295_01.main with body := [capLaw.1] } }
def loose0 : List Str := [Str.ofString "_sre", Str.ofString "deque", Str.ofString "_wall", Str.ofString "UTC_ZONES", Str.ofString "TIMEZONE_RE", Str.ofString "offset_from_tz_string", Str.ofString "_twin_re_1", Str.ofString "_whence", Str.ofString "_index", Str.ofString "UnsupportedOperation", Str.ofString "IOBase", Str.ofString "BufferedIOBase", Str.ofString "TextIOBase", Str.ofString "BytesIO", Str.ofString "StringIO", Str.ofString "_kind", Str.ofString "_fspath", Str.ofString "_check_arg_types", Str.ofString "isabs", Str.ofString "join", Str.ofString "join_path", Str.ofString "dirname", Str.ofString "shlex", Str.ofString "split", Str.ofString "join_shlex", Str.ofString "_find_unsafe", Str.ofString "quote", Str.ofString "S_IFMT", Str.ofString "S_IFDIR", Str.ofString "S_IFCHR", Str.ofString "S_IFBLK", Str.ofString "S_IFREG", Str.ofString "S_IFIFO", Str.ofString "S_IFLNK", Str.ofString "S_IFSOCK", Str.ofString "S_ISUID", Str.ofString "S_ISGID", Str.ofString "S_ISVTX", Str.ofString "S_IRUSR", Str.ofString "S_IWUSR", Str.ofString "S_IXUSR", Str.ofString "S_IRGRP", Str.ofString "S_IWGRP", Str.ofString "S_IXGRP", Str.ofString "S_IROTH", Str.ofString "S_IWOTH", Str.ofString "S_IXOTH", Str.ofString "_filemode_table", Str.ofString "filemode", Str.ofString "_law_clock", Str.ofString "_law_spelled", Str.ofString "_law_figures", Str.ofString "_law_compared", Str.ofString "_law_by_figures", Str.ofString "_law_due"]
noncomputable def Xt0 (s : Shared) : Bool := xlAt q0 [] s && recOk (RowW.records PySem.Challenge.rw_oc0295_01.row.toRowW) s
/-- the table of join's code: a generator expression's code is put down in it -/
@[reducible] def tabO : Obj := ⟨.none, none, .fields #[], #[]⟩
noncomputable def K2 (P : Params) : Frag := (nat_lit 759, tabO) :: K P
def Kas2 : List Addr := nat_lit 759 :: Kas
theorem Kas2_eq (P : Params) : Kas2 = (K2 P).map (·.1) := by
  show nat_lit 759 :: Kas = _
  rw [Kas_eq P]
  rfl
theorem K2_in {P : Params} {h : Heap} (X : (K2 P).In h) : (K P).In h ∧ h.get? 759 = some tabO := by
  refine ⟨fun a o e => X a o ?_, X 759 _ rfl⟩
  show (match a == 759 with | true => some tabO | false => (K P).lookup a) = some o
  cases hb : a == 759 with
  | false => exact e
  | true =>
    rw [eq_of_beq hb] at e
    have : (K P).lookup 759 = none := by kernel_rfl
    rw [this] at e
    cases e
noncomputable def openQ (p : Program) (w : World) (N : Nat) : Option Shared :=
  match PySem.W.Fast.tw10274390034422433532 PySem.W.Fast.tw14364793385576792824 (opening p) w N (PySem.W.Fast.tw1435165496053646825 (opening p)).1 (PySem.W.Fast.tw1435165496053646825 (opening p)).2 with
  | some s => PySem.W.Fast.tw14289696077712309145 p s
  | none => none
noncomputable def wholeQ (p : Program) (w : World) (N : Nat) : Option (Shared × SharedT) :=
  match openQ p w N with
  | some s₀ => match toT? s₀ with
    | some S₀ => match topRunQ p w s₀.heap.objs.size (s₀.heap.nsMap mainGlobals "__annotations__") N S₀ (topStub p) with
      | some S₁ => some (s₀, S₁)
      | none => none
    | none => none
  | none => none
def obsAt (S : SharedT) (a : Addr) : Option Obj := match Nat.blt a S.n with
  | true => match S.tree.get a with
    | some o => alive o
    | none => none
  | false => none
noncomputable def chk (p : Program) (s₀ s₁ : Shared) : Bool :=
  s₀.heap.isNs mainGlobals && s₀.gens.size == 0 && (staticsOk (importedModules p.main.body) s₀.heap s₁.heap && namesBound p s₁.heap && gensDone s₁ && laidKept s₀.heap s₁.heap)
noncomputable def obs0 (p : Program) (r : Shared × SharedT) := (chk p r.1 r.2.abs, PySem.W.Fast.tw4187177175401517315 q0 loose0 (importedModules p.main.body) Xt0 true r.2.abs, Kas2.map (obsAt r.2))
theorem th_f (w : World) : (wholeQ PySem.Challenge.pw_oc0295_01 (w.withFollow "special-get-raises" false) 12000).map (obs0 PySem.Challenge.pw_oc0295_01) = some (true, openGood q0 loose0, (K2 (w.withFollow "special-get-raises" false).params).map fun p => some p.2) := by kernel_rfl
theorem th_t (w : World) : (wholeQ PySem.Challenge.pw_oc0295_01 (w.withFollow "special-get-raises" true) 12000).map (obs0 PySem.Challenge.pw_oc0295_01) = some (true, openGood q0 loose0, (K2 (w.withFollow "special-get-raises" true).params).map fun p => some p.2) := by kernel_rfl
theorem obsAt_get {S : SharedT} {a : Addr} {o : Obj} (h : obsAt S a = some o) : S.abs.heap.get? a = some o := by
  unfold obsAt at h
  cases hb : Nat.blt a S.n with
  | false => rw [hb] at h; cases h
  | true =>
    rw [hb] at h
    cases hg : S.tree.get a with
    | none => rw [hg] at h; cases h
    | some o' =>
      rw [hg] at h
      have : a < S.n := Nat.le_of_ble_eq_true hb
      exact (abs_get this hg).trans h
theorem obs_map {S : SharedT} : ∀ {as : List Addr} {K : Frag}, as.map (obsAt S) = K.map (fun p => some p.2) → as.map S.abs.heap.get? = K.map fun p => some p.2
  | [], [], _ => rfl
  | [], _ :: _, h => by cases h
  | _ :: _, [], h => by cases h
  | a :: as, p :: K, h => by
    rw [List.map_cons, List.map_cons] at h ⊢
    injection h with h1 h2
    rw [obsAt_get h1, obs_map h2]
theorem openQ_eq (p : Program) (w : World) (N : Nat) : openQ p w N = fencedOpening treeTable p w N := by
  unfold openQ fencedOpening
  rw [← PySem.W.Fast.te10274390034422433532, ← PySem.W.Fast.te14364793385576792824, ← PySem.W.Fast.te1435165496053646825, ← PySem.W.Fast.te14289696077712309145]
  cases importEnds treeTable (opening p) w N (start (opening p)).1 (start (opening p)).2 <;> rfl
noncomputable abbrev H0 : Hook := kHook K2 Kas2 Kas2_eq
theorem left_of {p : Program} {w : World} {N : Nat} (h : (wholeQ p w N).map (obs0 p) = some (true, openGood q0 loose0, (K2 w.params).map fun p => some p.2)) :
    (openEnds treeTable p w N).map (fun s => (openSeen q0 loose0 (importedModules p.main.body) Xt0 true s, H0.obs s)) = some (openGood q0 loose0, H0.val w) := by
  obtain ⟨⟨s₀, S₁⟩, h1, h2⟩ := Option.map_eq_some_iff.mp h
  unfold wholeQ at h1
  rw [openQ_eq] at h1
  cases ho : fencedOpening treeTable p w N with
  | none => rw [ho] at h1; cases h1
  | some s =>
    rw [ho] at h1
    dsimp only at h1
    cases ht : toT? s with
    | none => rw [ht] at h1; cases h1
    | some S₀ =>
      rw [ht] at h1
      dsimp only at h1
      rw [topRunQ_eq] at h1
      cases hr : topRunT treeTable p w s.heap.objs.size (s.heap.nsMap mainGlobals "__annotations__") N S₀ (topStub p) with
      | none => rw [hr] at h1; cases h1
      | some S =>
        rw [hr] at h1
        cases h1
        have e0 := toT?_abs ht
        have e1 := topRunT_of hr
        rw [e0] at e1
        unfold obs0 at h2
        have a1 : chk p s₀ S₁.abs = true := congrArg Prod.fst h2
        have a2 := congrArg (fun x => x.2.1) h2
        have a3 := congrArg (fun x => x.2.2) h2
        dsimp only at a2 a3
        rw [← PySem.W.Fast.te4187177175401517315] at a2
        unfold chk at a1
        obtain ⟨b1, b2⟩ := Bool.and_eq_true_iff.mp a1
        have et : topFrom treeTable p w N s₀ = some S₁.abs := by
          unfold topFrom
          rw [b1]
          dsimp only
          rw [e1]
          show (match _ with | true => some S₁.abs | false => none) = some S₁.abs
          rw [b2]
        unfold openEnds
        rw [ho]
        show (topFrom treeTable p w N s₀).map _ = _
        rw [et]
        dsimp only [Option.map_some]
        rw [a2]
        have : H0.obs S₁.abs = H0.val w := obs_map a3
        rw [this]
theorem left : LeftO PySem.Challenge.pw_oc0295_01 q0 loose0 Xt0 H0.obs H0.val 12000 := fun w =>
  byRow2 "special-get-raises" (P := fun w => (openEnds treeTable PySem.Challenge.pw_oc0295_01 w 12000).map (fun s => (openSeen q0 loose0 (importedModules PySem.Challenge.pw_oc0295_01.main.body) Xt0 true s, H0.obs s)) = some (openGood q0 loose0, H0.val w))
    (fun w => left_of (th_f w)) (fun w => left_of (th_t w)) w
theorem said : PySem.Challenge.rw_oc0295_01.wellSaid = true := by
  rw [PySem.W.Fast.te9446332074065402090]
  kernel_rfl

end
section

/-! ## contracts: what a call gives back, over any frame and any ledger -/
theorem kfill : PySem.Challenge.rw_oc0295_01.foot = 7 → (K = K) := by
  k_fill
  intro _; rfl
abbrev Led := List (Addr × Obj)
abbrev ent (w : World) (n : Str) (k : Tok) (v : Value) : DictEntry := ⟨PyData.keyHash w.params n, .str n k, v⟩
/-- a call of the def at 'f' upon 'vs', the ledger being 'news', hands back a 'v' and leaves a ledger with 'R v ledger' -/
def Claim (w : World) (D U : Nat) (f : Addr) (news : Led) (vs : List Value) (R : Value → Led → Prop) : Prop :=
  ∀ (p : Program) (loose : List Str) (mean : ExcName → Option Value) (mg mb : Str → Option Value) (dp un : Nat) (gd : Option (List Code)) (cn : Str) (cs : Scope) (a : Addr) (ccd : Value) (cl : List (Str × Addr)) (outer : List Env)
    (A₀ : Around) (base h₀ : Heap) (L : Addr) (m : Str → Option Value) (s : Shared) (Q E : Value → Shared → Prop),
    Below A₀ base outer h₀ → Fr h₀ L s.heap m → (K w.params).In h₀ → News h₀ L s.heap news → Top p loose mean mg mb h₀ → cs.kind = .function → dp + D < recursionLimit → un + U < cLine →
    (∀ (v : Value) (news' : Led) (h' : Heap) (tk' : Nat), R v news' → Fr h₀ L h' m → News h₀ L h' news' → Q v { s with heap := h', toks := tk' }) →
    wpAny (model PySem.Challenge.pw_oc0295_01 w) (ktrTop dp un gd cn cs L a ccd cl outer) (call (.ref f) vs) Q E s
theorem Claim.use {w : World} {D U : Nat} {f : Addr} {news : Led} {vs : List Value} {R : Value → Led → Prop} (C : Claim w D U f news vs R)
    {p : Program} {loose : List Str} {mean : ExcName → Option Value} {mg mb : Str → Option Value} {dp un : Nat} {gd : Option (List Code)} {cn : Str} {cs : Scope} {a : Addr} {ccd : Value} {cl : List (Str × Addr)} {outer : List Env}
    {A₀ : Around} {base h₀ : Heap} {L : Addr} {m : Str → Option Value} {s : Shared} {Q E : Value → Shared → Prop}
    (B : Below A₀ base outer h₀) (F : Fr h₀ L s.heap m) (X : (K w.params).In h₀) (N : News h₀ L s.heap news) (T : Top p loose mean mg mb h₀) (hk : cs.kind = .function) (hd : dp + D < recursionLimit) (hu : un + U < cLine)
    (h : ∀ (v : Value) (news' : Led) (h' : Heap) (tk' : Nat), R v news' → Fr h₀ L h' m → News h₀ L h' news' → Q v { s with heap := h', toks := tk' }) :
    wpAny (model PySem.Challenge.pw_oc0295_01 w) (ktrTop dp un gd cn cs L a ccd cl outer) (call (.ref f) vs) Q E s := C _ _ _ _ _ _ _ _ _ _ _ _ _ _ _ _ _ _ _ _ _ _ B F X N T hk hd hu h
theorem news_sub {h₀ h : Heap} {L : Addr} {news news' : Led} (N : News h₀ L h news') (hs : ∀ p ∈ news, p ∈ news') : News h₀ L h news := fun p hp => N p (hs p hp)

theorem indexK (w : World) (news : Led) (t1 t2 : Tok) (x : Str) : Claim w 2 20 76 news [.int 1 t1, .str x t2] (fun v l => (∃ t, v = .int 1 t) ∧ l = news) := by
  intro p loose mean mg mb dp un gd cn cs a ccd cl outer A₀ base h₀ L m s Q E B F X N T hk hdp hun hret
  refine wpAny_call ?_
  k_enter
  k_steps
  exact hret _ _ _ _ ⟨⟨_, rfl⟩, rfl⟩ (by assumption) (by assumption)

end
section

/-! ## StringIO.read(1) -/
@[reducible] def ioEs (w : World) (k1 k2 k3 tn tb : Tok) (nl text : Str) (vp : Value) : List DictEntry :=
  [ent w "_StringIO__newline" k1 (.str nl tn), ent w "_StringIO__buf" k2 (.str text tb), ent w "_StringIO__pos" k3 vp]
section
theorem upd_mem {d : Addr} {o o' : Obj} : ∀ {l l' : Led}, Upd d o o' l l' → (d, o') ∈ l'
  | _, _, .head _ => .head _
  | _, _, .tail _ h => .tail _ (upd_mem h)
theorem upd_keep {d x : Addr} {o o' y : Obj} (hx : x ≠ d) : ∀ {l l' : Led}, Upd d o o' l l' → (x, y) ∈ l → (x, y) ∈ l'
  | _, _, .head _, h => by
    rcases List.mem_cons.mp h with e | h
    · exact absurd (congrArg Prod.fst e) hx
    · exact .tail _ h
  | _, _, .tail _ u, h => by
    rcases List.mem_cons.mp h with e | h
    · rw [e]; exact .head _
    · exact .tail _ (upd_keep hx u h)
local macro_rules | `(tactic| k_mem) => `(tactic| first | assumption | (rename (∀ _ : Value, (_ , instObj _ _) ∈ _) => hq'; exact hq' _) | (rename (∀ _ : Value, (_, dictOf _ _) ∈ _) => hq'; exact hq' _))
local macro_rules | `(tactic| k_upd) => `(tactic| (rename (∀ _ : Value, Upd _ _ _ _ _) => hU'; apply hU'))
theorem readK (w : World) (news : Led) (news' : Value → Led) (io dio : Nat) (k1 k2 k3 tn tb tp t1 : Tok) (nl text : Str) (pos : Int)
    (hm1 : (io, instObj 610 dio) ∈ news) (hm2 : (dio, dictOf (ioEs w k1 k2 k3 tn tb nl text (.int pos tp)) 3) ∈ news)
    (hU : ∀ v, Upd dio (dictOf (ioEs w k1 k2 k3 tn tb nl text (.int pos tp)) 3) (dictOf (ioEs w k1 k2 k3 tn tb nl text v) 3) news (news' v))
    (hne : io ≠ dio) (hl : text.length < 1000) (hp0 : 0 ≤ pos) (hp : pos < (text.length : Int)) :
    Claim w 4 40 556 news [.ref io, .int 1 t1] (fun v l => (∃ t, v = .str (Txt.slice text (some pos) (some (pos + 1))) t) ∧ ∃ tk, l = news' (.int (pos + 1) tk)) := by
  have hn1 : ∀ v, (io, instObj 610 dio) ∈ news' v := fun v => upd_keep hne (hU v) hm1
  have hn2 : ∀ v, (dio, dictOf (ioEs w k1 k2 k3 tn tb nl text v) 3) ∈ news' v := fun v => upd_mem (hU v)
  intro p loose mean mg mb dp un gd cn cs a ccd cl outer A₀ base h₀ L m s Q E B F X N T hk hdp hun hret
  refine wpAny_call ?_
  k_enter
  k_steps
  · exact hret _ _ _ _ ⟨⟨_, rfl⟩, _, rfl⟩ (by assumption) (by assumption)
  · have e : (text.length : Int) = pos + 1 := by omega
    simp only [e] at *
    exact hret _ _ _ _ ⟨⟨_, rfl⟩, _, rfl⟩ (by assumption) (by assumption)
theorem readK0 (w : World) (news : Led) (io dio : Nat) (k1 k2 k3 tn tb tp t1 : Tok) (nl text : Str) (pos : Int)
    (hm1 : (io, instObj 610 dio) ∈ news) (hm2 : (dio, dictOf (ioEs w k1 k2 k3 tn tb nl text (.int pos tp)) 3) ∈ news)
    (hl : text.length < 1000) (hp : (text.length : Int) ≤ pos) :
    Claim w 4 40 556 news [.ref io, .int 1 t1] (fun v l => (∃ t, v = .str "" t) ∧ l = news) := by
  intro p loose mean mg mb dp un gd cn cs a ccd cl outer A₀ base h₀ L m s Q E B F X N T hk hdp hun hret
  refine wpAny_call ?_
  k_enter
  repeat' (first | (k_here; (with_reducible show wpAny _ _ (call (Value.ref 76) _) _ _ _); k_dflt (refine' (indexK _ _ _ _ _).use ?k1 ?k2 ?k3 ?k4 ?k5 ?k6 ?k7 ?k8 ?_; (case k1 => k_asm); (case k2 => k_asm); (case k3 => k_asm); (case k4 => k_asm); (case k5 => k_asm); (case k6 => first | exact rfl | assumption); (case k7 => k_room); (case k8 => (try dsimp only); omega)); intro v' l' h' tk' hR' F' N'; obtain ⟨⟨t', e1'⟩, e2'⟩ := hR'; subst e1'; rw [e2'] at N'; clear e2'; (try k_sweep)) | (k_unfold; (try dsimp only)) | walk1 | (dsimp only; walk1) | (leave1; (try dsimp only)))
  exact hret _ _ _ _ ⟨⟨_, rfl⟩, rfl⟩ (by assumption) (by assumption)
end

end
local macro_rules | `(tactic| walk_at "exec If") => `(tactic| refine wpAny_If ?_)
local macro_rules | `(tactic| walk_at "ite") => `(tactic| first | with_reducible refine ite_tt ?_ | with_reducible refine ite_ff ?_)
section

/-! ## the lexer's objects, and one turn of read_token's loop -/
@[reducible] noncomputable def capWh : { b : List Stmt // (match cap713.1.body with | _ :: _ :: .While _ b _ _ :: _ => b | _ => []) = b } := by
  refine' ⟨_, _⟩
  rotate_left
  conv => lhs; whnf
@[reducible] noncomputable def capBig : { b : List Stmt // capWh.1.drop 3 = b } := by
  refine' ⟨_, _⟩
  rotate_left
  conv => lhs; whnf
@[reducible] noncomputable def capWt : { b : PySem.Expr // (match cap713.1.body with | _ :: _ :: .While t _ _ _ :: _ => t | _ => default) = b } := by
  refine' ⟨_, _⟩
  rotate_left
  conv => lhs; whnf
@[reducible] def deq : Obj := { cls := .type "collections.deque", data := .fields #[.none, .int 0 0] }
@[reducible] def lexEs (w : World) (k t : Nat → Tok) (io pb fs : Nat) (wc : Str) (vst vtok : Value) : List DictEntry :=
  [ent w "instream" (k 0) (.ref io), ent w "infile" (k 1) .none, ent w "posix" (k 2) (.bool true), ent w "eof" (k 3) .none, ent w "commenters" (k 4) (.str "" (t 4)),
   ent w "wordchars" (k 5) (.str wc (t 5)), ent w "whitespace" (k 6) (.str " \t\r\n" (t 6)), ent w "whitespace_split" (k 7) (.bool true), ent w "quotes" (k 8) (.str "'\"" (t 8)), ent w "escape" (k 9) (.str "\\" (t 9)),
   ent w "escapedquotes" (k 10) (.str "\"" (t 10)), ent w "state" (k 11) vst, ent w "pushback" (k 12) (.ref pb), ent w "lineno" (k 13) (.int 1 (t 13)), ent w "debug" (k 14) (.int 0 (t 14)),
   ent w "token" (k 15) vtok, ent w "filestack" (k 16) (.ref fs), ent w "source" (k 17) .none, ent w "_punctuation_chars" (k 18) (.str "" (t 18))]
@[reducible] def lexLed (w : World) (k t : Nat → Tok) (x dx io dio pb fs : Nat) (wc text : Str) (vst vtok vp : Value) (rest : Led) : Led :=
  (x, instObj 745 dx) :: (dx, dictOf (lexEs w k t io pb fs wc vst vtok) 19) :: (io, instObj 610 dio) :: (dio, dictOf (ioEs w (k 20) (k 21) (k 22) (t 20) (t 21) "\n" text vp) 3) :: (pb, deq) :: (fs, deq) :: rest
@[reducible] def cm (x : Nat) (q : Bool) (es : Str) (te : Tok) (nx : Option Value) : Str → Option Value :=
  fun y => if y = Str.ofString "nextchar" then nx else if y = Str.ofString "escapedstate" then some (.str es te) else if y = Str.ofString "quoted" then some (.bool q) else if y = Str.ofString "self" then some (.ref x) else none
/-! tests of a sign by the facts at hand -/
def inS (x y : Str) : Bool := !(Builtin.Str.occurrences x y 0 x.length 1).isEmpty
section
variable {prog : Program} {w : World} {A : Around} {E : Value → Shared → Prop} {s : Shared} {x y : Str} {t u : Tok} {Q : Value → Shared → Prop}
theorem eqS_is {b : Bool} (e : (x == y) = b) (h : Q (.bool b) s) : wpAny (model prog w) A (compareOp .Eq (.str x t) (.str y u)) Q E s := PyProof.Rows.eq_str (by rw [e]; exact h)
theorem inS_is {b : Bool} (e : inS x y = b) (h : Q (.bool b) s) : wpAny (model prog w) A (compareOp .In (.str y u) (.str x t)) Q E s := PyProof.Rows.in_str (by show Q (.bool (inS x y)) s; rw [e]; exact h)
theorem ninS_is {b : Bool} (e : inS x y = b) (h : Q (.bool !b) s) : wpAny (model prog w) A (compareOp .NotIn (.str y u) (.str x t)) Q E s := PyProof.Rows.notIn_str (by show Q (.bool !(inS x y)) s; rw [e]; exact h)
theorem truthS_is {Q : Bool → Shared → Prop} {b : Bool} (e : ((x.length : Int) != 0) = b) (hl : x.length < 100000) (h : Q b { s with toks := s.toks + 1 + 1 }) : wpAny (model prog w) A (PySem.truthy (.str x t)) Q E s :=
  PyProof.Rows.SBL.truthy (by omega) (by rw [e]; exact h)
end
theorem cm_next {x : Nat} {q : Bool} {es : Str} {te : Tok} {nx : Option Value} {v : Value} : (fun y => if y = Str.ofString "nextchar" then some v else cm x q es te nx y) = cm x q es te (some v) := by
  funext y
  by_cases h : y = Str.ofString "nextchar" <;> simp [cm, h]
theorem cm_quoted {x : Nat} {q b : Bool} {es : Str} {te : Tok} {nx : Option Value} : (fun y => if y = Str.ofString "quoted" then some (.bool b) else cm x q es te nx y) = cm x b es te nx := by
  funext y
  by_cases h : y = Str.ofString "quoted"
  · subst h; rfl
  · simp [cm, h]
theorem cm_esc {x : Nat} {q : Bool} {es e2 : Str} {te t2 : Tok} {nx : Option Value} : (fun y => if y = Str.ofString "escapedstate" then some (.str e2 t2) else cm x q es te nx y) = cm x q e2 t2 nx := by
  funext y
  by_cases h : y = Str.ofString "escapedstate"
  · subst h; rfl
  · simp [cm, h]
theorem news_tl {h₀ h : Heap} {L : Addr} {a : Addr × Obj} {l : Led} (N : News h₀ L h (a :: l)) : News h₀ L h l := fun p hp => N p (.tail _ hp)
theorem fr_eq {h₀ h : Heap} {L : Addr} {m m' : Str → Option Value} (e : m = m') (F : Fr h₀ L h m) : Fr h₀ L h m' := e ▸ F
/-- the addresses that the lexer changes are no other's -/
structure Apart (x dx io dio pb fs : Nat) (rest : Led) : Prop where
  h1 : x ≠ dx
  h2 : io ≠ dx
  h3 : dio ≠ dx
  h4 : pb ≠ dx
  h5 : fs ≠ dx
  h6 : x ≠ dio
  h7 : io ≠ dio
  h8 : pb ≠ dio
  h9 : fs ≠ dio
  h10 : ∀ p ∈ rest, p.1 ≠ dx
  h11 : ∀ p ∈ rest, p.1 ≠ dio
/-- what a turn ends in: it goes on (R), or leaves the loop -/
def TP (R : Shared → Prop) (Q : Flow → Shared → Prop) (f : Flow) (s : Shared) : Prop := match f with
  | .next => R s
  | .cont => R s
  | .brk => Q .next s
  | .ret v => Q (.ret v) s
noncomputable abbrev lexA (dp un : Nat) (gd : Option (List Code)) (L : Addr) (outer : List Env) : Around := ktrTop dp un gd "shlex.read_token" cap713.1.scope L 713 (.ref 712) [] outer
noncomputable abbrev lexEnv (L : Addr) : Env := envOf "shlex.read_token" cap713.1.scope L 713 (.ref 712)
/-- the ground of a walk within read_token -/
structure Gr (w : World) (dp un : Nat) (outer : List Env) (A₀ : Around) (base h₀ : Heap) (p : Program) (loose : List Str) (mean : ExcName → Option Value) (mg mb : Str → Option Value) : Prop where
  B : Below A₀ base outer h₀
  X : (K w.params).In h₀
  T : Top p loose mean mg mb h₀
  hd : dp + 10 < recursionLimit
  hu : un + 80 < cLine
example {M : Model} {A : Around} {E : Value → Shared → Prop} {s : Shared} {env : Env} {Q : Flow → Shared → Prop} (h : Q .next s) : wpAny M A (execs [] env) Q E s := by
  walk1
  exact h
section
local macro_rules | `(tactic| walk_at "compareOp Eq str str") => `(tactic| (k_here; refine' eqS_is ?e ?_; (case e => assumption)))
local macro_rules | `(tactic| walk_at "compareOp In str str") => `(tactic| (k_here; refine' inS_is ?e ?_; (case e => assumption)))
local macro_rules | `(tactic| walk_at "compareOp NotIn str str") => `(tactic| (k_here; refine' ninS_is ?e ?_; (case e => assumption)))
local macro_rules | `(tactic| walk_at "truthy str") => `(tactic| (k_here; refine' truthS_is ?e ?l ?_; (case e => assumption); (case l => assumption)))
section
variable (w : World) (k t : Nat → Tok) (x dx io dio pb fs : Nat) (wc text tok es ch : Str) (tst ttok te tc : Tok) (rest : Led) (q : Bool)
    (p : Program) (loose : List Str) (mean : ExcName → Option Value) (mg mb : Str → Option Value) (dp un : Nat) (gd : Option (List Code)) (outer : List Env)
    (A₀ : Around) (base h₀ : Heap) (L : Addr) (s : Shared) (R : Shared → Prop) (Q : Flow → Shared → Prop)
/-- a turn's opening, where a sign is left -/
theorem turn0 (G : Gr w dp un outer A₀ base h₀ p loose mean mg mb) (nx : Option Value) (vst vtok : Value) (pos : Int) (tp : Tok)
    (F : Fr h₀ L s.heap (cm x q es te nx)) (N : News h₀ L s.heap (lexLed w k t x dx io dio pb fs wc text vst vtok (.int pos tp) rest)) (hap : Apart x dx io dio pb fs rest)
    (hl : text.length < 1000) (hp0 : 0 ≤ pos) (hp : pos < (text.length : Int)) (hc : Txt.slice text (some pos) (some (pos + 1)) = ch)
    (f1 : (ch == Str.ofString "\n") = false) (g0 : (((Str.ofString "").length : Int) != 0) = false) (g0' : (Str.ofString "").length < 100000)
    (h : ∀ h' tk' tc tp', Fr h₀ L h' (cm x q es te (some (.str ch tc))) → News h₀ L h' (lexLed w k t x dx io dio pb fs wc text vst vtok (.int (pos + 1) tp') rest) →
      wpAny (model PySem.Challenge.pw_oc0295_01 w) (lexA dp un gd L outer) (execs capBig.1 (lexEnv L)) (TP R Q) (fun _ _ => False) { s with heap := h', toks := tk' }) :
    wpAny (model PySem.Challenge.pw_oc0295_01 w) (lexA dp un gd L outer) (execs capWh.1 (lexEnv L)) (TP R Q) (fun _ _ => False) s := by
  obtain ⟨B, X, T, hdp, hun⟩ := G
  obtain ⟨h1, h2, h3, h4, h5, h6, h7, h8, h9, h10, h11⟩ := hap
  iterate 56 (first | (k_here; (with_reducible show wpAny _ _ (call (Value.ref 556) _) _ _ _); k_dflt (refine' (readK _ _ _ _ _ _ _ _ _ _ _ _ _ _ _ ?m1 ?m2 ?mU ?mn ?ml ?m0 ?mp).use ?k1 ?k2 ?k3 ?k4 ?k5 ?k6 ?k7 ?k8 ?_; (case k1 => k_asm); (case k2 => k_asm); (case k3 => k_asm); (case k4 => k_asm); (case k5 => k_asm); (case k6 => first | exact rfl | assumption); (case k7 => k_room); (case k8 => (try dsimp only); omega); (case m1 => k_mem); (case m2 => k_mem); (case mU => intro v'; k_upd); (case mn => k_ne); (case ml => assumption); (case m0 => assumption); (case mp => assumption)); intro v' l' h' tk' hR' F' N'; obtain ⟨⟨t', e1'⟩, tk2', e2'⟩ := hR'; subst e1'; rw [e2'] at N'; clear e2'; (rename Txt.slice _ _ _ = _ => hc'); rw [hc']; (try k_sweep)) | (k_unfold; (try dsimp only)) | walk1 | (dsimp only; walk1) | (leave1; (try dsimp only)))
  exact h _ _ _ _ (fr_eq cm_next (by assumption)) (by assumption)
/-- a turn's end in a word: the blank ends it, a quotation mark opens, another sign is added, and the text's end ends it -/
theorem turnA (G : Gr w dp un outer A₀ base h₀ p loose mean mg mb) (vp : Value) (bn bw bq : Bool)
    (F : Fr h₀ L s.heap (cm x q es te (some (.str ch tc)))) (N : News h₀ L s.heap (lexLed w k t x dx io dio pb fs wc text (.str "a" tst) (.str tok ttok) vp rest)) (hap : Apart x dx io dio pb fs rest)
    (htl : tok.length < 1000) (hcl : ch.length < 1000) (htl' : tok.length < 100000) (hcl' : ch.length < 100000)
    (e1 : ((ch.length : Int) != 0) = bn) (e2 : inS " \t\r\n" ch = bw) (e3 : inS "" ch = false) (e4 : inS "'\"" ch = bq) (e5 : inS "\\" ch = false) (e6 : ((tok.length : Int) != 0) = true)
    (g1 : inS "'\"" "a" = false) (g2 : inS "\\" "a" = false) (g3 : (Str.ofString "a" == Str.ofString " ") = false) (g4 : (Str.ofString "a" == Str.ofString "c") = false)
    (hN : bn = false → ∀ h' tk', Fr h₀ L h' (cm x q es te (some (.str ch tc))) → News h₀ L h' (lexLed w k t x dx io dio pb fs wc text .none (.str tok ttok) vp rest) → Q .next { s with heap := h', toks := tk' })
    (hW : bn = true → bw = true → ∀ h' tk' tst', Fr h₀ L h' (cm x q es te (some (.str ch tc))) → News h₀ L h' (lexLed w k t x dx io dio pb fs wc text (.str " " tst') (.str tok ttok) vp rest) → Q .next { s with heap := h', toks := tk' })
    (hq : bn = true → bw = false → bq = true → ∀ h' tk', Fr h₀ L h' (cm x q es te (some (.str ch tc))) → News h₀ L h' (lexLed w k t x dx io dio pb fs wc text (.str ch tc) (.str tok ttok) vp rest) → R { s with heap := h', toks := tk' })
    (hC : bn = true → bw = false → bq = false → ∀ h' tk' ttok', Fr h₀ L h' (cm x q es te (some (.str ch tc))) → News h₀ L h' (lexLed w k t x dx io dio pb fs wc text (.str "a" tst) (.str (tok ++ ch) ttok') vp rest) → R { s with heap := h', toks := tk' }) :
    wpAny (model PySem.Challenge.pw_oc0295_01 w) (lexA dp un gd L outer) (execs capBig.1 (lexEnv L)) (TP R Q) (fun _ _ => False) s := by
  obtain ⟨B, X, T, hdp, hun⟩ := G
  obtain ⟨h1, h2, h3, h4, h5, h6, h7, h8, h9, h10, h11⟩ := hap
  repeat' (first | (k_here; (with_reducible show wpAny _ _ (call (Value.ref 556) _) _ _ _); k_dflt (refine' (readK _ _ _ _ _ _ _ _ _ _ _ _ _ _ _ ?m1 ?m2 ?mU ?mn ?ml ?m0 ?mp).use ?k1 ?k2 ?k3 ?k4 ?k5 ?k6 ?k7 ?k8 ?_; (case k1 => k_asm); (case k2 => k_asm); (case k3 => k_asm); (case k4 => k_asm); (case k5 => k_asm); (case k6 => first | exact rfl | assumption); (case k7 => k_room); (case k8 => (try dsimp only); omega); (case m1 => k_mem); (case m2 => k_mem); (case mU => intro v'; k_upd); (case mn => k_ne); (case ml => assumption); (case m0 => assumption); (case mp => assumption)); intro v' l' h' tk' hR' F' N'; obtain ⟨⟨t', e1'⟩, tk2', e2'⟩ := hR'; subst e1'; rw [e2'] at N'; clear e2'; (rename Txt.slice _ _ _ = _ => hc'); rw [hc']; (try k_sweep)) | (k_unfold; (try dsimp only)) | walk1 | (dsimp only; walk1) | (leave1; (try dsimp only)))
  · exact hW (by assumption) (by assumption) _ _ _ (by assumption) (news_tl (by assumption))
  · exact hq (by assumption) (by assumption) (by assumption) _ _ (by assumption) (news_tl (by assumption))
  · exact hC (by assumption) (by assumption) (by assumption) _ _ _ (by assumption) (news_tl (by assumption))
  · exact hC (by assumption) (by assumption) (by assumption) _ _ _ (by assumption) (news_tl (by assumption))
  · exact hN (by assumption) _ _ (by assumption) (news_tl (by assumption))
end
section

section
section
variable (w : World) (k t : Nat → Tok) (x dx io dio pb fs : Nat) (wc text tok es ch : Str) (tst ttok te tc : Tok) (rest : Led) (q : Bool)
    (p : Program) (loose : List Str) (mean : ExcName → Option Value) (mg mb : Str → Option Value) (dp un : Nat) (gd : Option (List Code)) (outer : List Env)
    (A₀ : Around) (base h₀ : Heap) (L : Addr) (s : Shared) (R : Shared → Prop) (Q : Flow → Shared → Prop)

/-- a turn's end between words -/
theorem turnS (G : Gr w dp un outer A₀ base h₀ p loose mean mg mb) (vp : Value) (be bq bc : Bool)
    (F : Fr h₀ L s.heap (cm x q es te (some (.str ch tc)))) (N : News h₀ L s.heap (lexLed w k t x dx io dio pb fs wc text (.str " " tst) (.str "" ttok) vp rest)) (hap : Apart x dx io dio pb fs rest)
    (hcl : ch.length < 1000) (hcl' : ch.length < 100000)
    (e1 : ((ch.length : Int) != 0) = true) (e2 : inS " \t\r\n" ch = false) (e3 : inS "" ch = false) (e4 : inS "'\"" ch = bq) (e5 : inS "\\" ch = be) (e6 : inS wc ch = bc)
    (g3 : (Str.ofString " " == Str.ofString " ") = true)
    (hE : be = true → ∀ h' tk' te', Fr h₀ L h' (cm x q "a" te' (some (.str ch tc))) → News h₀ L h' (lexLed w k t x dx io dio pb fs wc text (.str ch tc) (.str "" ttok) vp rest) → R { s with heap := h', toks := tk' })
    (hq : be = false → bc = false → bq = true → ∀ h' tk', Fr h₀ L h' (cm x q es te (some (.str ch tc))) → News h₀ L h' (lexLed w k t x dx io dio pb fs wc text (.str ch tc) (.str "" ttok) vp rest) → R { s with heap := h', toks := tk' })
    (hC : be = false → (bc = true ∨ bq = false) → ∀ h' tk' tst', Fr h₀ L h' (cm x q es te (some (.str ch tc))) → News h₀ L h' (lexLed w k t x dx io dio pb fs wc text (.str "a" tst') (.str ch tc) vp rest) → R { s with heap := h', toks := tk' }) :
    wpAny (model PySem.Challenge.pw_oc0295_01 w) (lexA dp un gd L outer) (execs capBig.1 (lexEnv L)) (TP R Q) (fun _ _ => False) s := by
  obtain ⟨B, X, T, hdp, hun⟩ := G
  obtain ⟨h1, h2, h3, h4, h5, h6, h7, h8, h9, h10, h11⟩ := hap
  repeat' (first | (k_here; (with_reducible show wpAny _ _ (call (Value.ref 556) _) _ _ _); k_dflt (refine' (readK _ _ _ _ _ _ _ _ _ _ _ _ _ _ _ ?m1 ?m2 ?mU ?mn ?ml ?m0 ?mp).use ?k1 ?k2 ?k3 ?k4 ?k5 ?k6 ?k7 ?k8 ?_; (case k1 => k_asm); (case k2 => k_asm); (case k3 => k_asm); (case k4 => k_asm); (case k5 => k_asm); (case k6 => first | exact rfl | assumption); (case k7 => k_room); (case k8 => (try dsimp only); omega); (case m1 => k_mem); (case m2 => k_mem); (case mU => intro v'; k_upd); (case mn => k_ne); (case ml => assumption); (case m0 => assumption); (case mp => assumption)); intro v' l' h' tk' hR' F' N'; obtain ⟨⟨t', e1'⟩, tk2', e2'⟩ := hR'; subst e1'; rw [e2'] at N'; clear e2'; (rename Txt.slice _ _ _ = _ => hc'); rw [hc']; (try k_sweep)) | (k_unfold; (try dsimp only)) | walk1 | (dsimp only; walk1) | (leave1; (try dsimp only)))
  · exact hE (by assumption) _ _ _ (fr_eq cm_esc (by assumption)) (by assumption)
  · exact hC (by assumption) (.inl (by assumption)) _ _ _ (by assumption) (by assumption)
  · exact hq (by assumption) (by assumption) (by assumption) _ _ (by assumption) (by assumption)
  · exact hC (by assumption) (.inr (by assumption)) _ _ _ (by assumption) (by assumption)
/-- a turn's end between quotation marks -/
theorem turnQ (G : Gr w dp un outer A₀ base h₀ p loose mean mg mb) (vp : Value) (st : Str) (bs : Bool)
    (F : Fr h₀ L s.heap (cm x q es te (some (.str ch tc)))) (N : News h₀ L s.heap (lexLed w k t x dx io dio pb fs wc text (.str st tst) (.str tok ttok) vp rest)) (hap : Apart x dx io dio pb fs rest)
    (hcl : ch.length < 1000) (htl : tok.length < 1000) (hcl' : ch.length < 100000)
    (e1 : ((ch.length : Int) != 0) = true) (e5 : inS "\\" ch = false) (e6 : (ch == st) = bs)
    (g3 : (st == Str.ofString " ") = false) (g4 : inS "'\"" st = true)
    (hq : bs = true → ∀ h' tk' tst', Fr h₀ L h' (cm x true es te (some (.str ch tc))) → News h₀ L h' (lexLed w k t x dx io dio pb fs wc text (.str "a" tst') (.str tok ttok) vp rest) → R { s with heap := h', toks := tk' })
    (hC : bs = false → ∀ h' tk' ttok', Fr h₀ L h' (cm x true es te (some (.str ch tc))) → News h₀ L h' (lexLed w k t x dx io dio pb fs wc text (.str st tst) (.str (tok ++ ch) ttok') vp rest) → R { s with heap := h', toks := tk' }) :
    wpAny (model PySem.Challenge.pw_oc0295_01 w) (lexA dp un gd L outer) (execs capBig.1 (lexEnv L)) (TP R Q) (fun _ _ => False) s := by
  obtain ⟨B, X, T, hdp, hun⟩ := G
  obtain ⟨h1, h2, h3, h4, h5, h6, h7, h8, h9, h10, h11⟩ := hap
  repeat' (first | (k_here; (with_reducible show wpAny _ _ (call (Value.ref 556) _) _ _ _); k_dflt (refine' (readK _ _ _ _ _ _ _ _ _ _ _ _ _ _ _ ?m1 ?m2 ?mU ?mn ?ml ?m0 ?mp).use ?k1 ?k2 ?k3 ?k4 ?k5 ?k6 ?k7 ?k8 ?_; (case k1 => k_asm); (case k2 => k_asm); (case k3 => k_asm); (case k4 => k_asm); (case k5 => k_asm); (case k6 => first | exact rfl | assumption); (case k7 => k_room); (case k8 => (try dsimp only); omega); (case m1 => k_mem); (case m2 => k_mem); (case mU => intro v'; k_upd); (case mn => k_ne); (case ml => assumption); (case m0 => assumption); (case mp => assumption)); intro v' l' h' tk' hR' F' N'; obtain ⟨⟨t', e1'⟩, tk2', e2'⟩ := hR'; subst e1'; rw [e2'] at N'; clear e2'; (rename Txt.slice _ _ _ = _ => hc'); rw [hc']; (try k_sweep)) | (k_unfold; (try dsimp only)) | walk1 | (dsimp only; walk1) | (leave1; (try dsimp only)))
  · exact hq (by assumption) _ _ _ (fr_eq cm_quoted (by assumption)) (by assumption)
  · exact hC (by assumption) _ _ _ (fr_eq cm_quoted (by assumption)) (by assumption)
/-- a turn's end behind a backslash -/
theorem turnE (G : Gr w dp un outer A₀ base h₀ p loose mean mg mb) (vp : Value)
    (F : Fr h₀ L s.heap (cm x q "a" te (some (.str ch tc)))) (N : News h₀ L s.heap (lexLed w k t x dx io dio pb fs wc text (.str "\\" tst) (.str tok ttok) vp rest)) (hap : Apart x dx io dio pb fs rest)
    (hcl : ch.length < 1000) (htl : tok.length < 1000) (hcl' : ch.length < 100000)
    (e1 : ((ch.length : Int) != 0) = true)
    (g1 : (Str.ofString "\\" == Str.ofString " ") = false) (g2 : inS "'\"" "\\" = false) (g3 : inS "\\" "\\" = true) (g4 : inS "'\"" "a" = false)
    (hC : ∀ h' tk' ttok', Fr h₀ L h' (cm x q "a" te (some (.str ch tc))) → News h₀ L h' (lexLed w k t x dx io dio pb fs wc text (.str "a" te) (.str (tok ++ ch) ttok') vp rest) → R { s with heap := h', toks := tk' }) :
    wpAny (model PySem.Challenge.pw_oc0295_01 w) (lexA dp un gd L outer) (execs capBig.1 (lexEnv L)) (TP R Q) (fun _ _ => False) s := by
  obtain ⟨B, X, T, hdp, hun⟩ := G
  obtain ⟨h1, h2, h3, h4, h5, h6, h7, h8, h9, h10, h11⟩ := hap
  repeat' (first | (k_here; (with_reducible show wpAny _ _ (call (Value.ref 556) _) _ _ _); k_dflt (refine' (readK _ _ _ _ _ _ _ _ _ _ _ _ _ _ _ ?m1 ?m2 ?mU ?mn ?ml ?m0 ?mp).use ?k1 ?k2 ?k3 ?k4 ?k5 ?k6 ?k7 ?k8 ?_; (case k1 => k_asm); (case k2 => k_asm); (case k3 => k_asm); (case k4 => k_asm); (case k5 => k_asm); (case k6 => first | exact rfl | assumption); (case k7 => k_room); (case k8 => (try dsimp only); omega); (case m1 => k_mem); (case m2 => k_mem); (case mU => intro v'; k_upd); (case mn => k_ne); (case ml => assumption); (case m0 => assumption); (case mp => assumption)); intro v' l' h' tk' hR' F' N'; obtain ⟨⟨t', e1'⟩, tk2', e2'⟩ := hR'; subst e1'; rw [e2'] at N'; clear e2'; (rename Txt.slice _ _ _ = _ => hc'); rw [hc']; (try k_sweep)) | (k_unfold; (try dsimp only)) | walk1 | (dsimp only; walk1) | (leave1; (try dsimp only)))
  · exact hC _ _ _ (by assumption) (by assumption)
/-- a turn's end behind the text's end -/
theorem turnN (G : Gr w dp un outer A₀ base h₀ p loose mean mg mb) (vp vtok : Value)
    (F : Fr h₀ L s.heap (cm x q es te (some (.str ch tc)))) (N : News h₀ L s.heap (lexLed w k t x dx io dio pb fs wc text .none vtok vp rest)) (hap : Apart x dx io dio pb fs rest)
    (hC : ∀ h' tk' ttok', Fr h₀ L h' (cm x q es te (some (.str ch tc))) → News h₀ L h' (lexLed w k t x dx io dio pb fs wc text .none (.str "" ttok') vp rest) → Q .next { s with heap := h', toks := tk' }) :
    wpAny (model PySem.Challenge.pw_oc0295_01 w) (lexA dp un gd L outer) (execs capBig.1 (lexEnv L)) (TP R Q) (fun _ _ => False) s := by
  obtain ⟨B, X, T, hdp, hun⟩ := G
  obtain ⟨h1, h2, h3, h4, h5, h6, h7, h8, h9, h10, h11⟩ := hap
  repeat' (first | (k_here; (with_reducible show wpAny _ _ (call (Value.ref 556) _) _ _ _); k_dflt (refine' (readK _ _ _ _ _ _ _ _ _ _ _ _ _ _ _ ?m1 ?m2 ?mU ?mn ?ml ?m0 ?mp).use ?k1 ?k2 ?k3 ?k4 ?k5 ?k6 ?k7 ?k8 ?_; (case k1 => k_asm); (case k2 => k_asm); (case k3 => k_asm); (case k4 => k_asm); (case k5 => k_asm); (case k6 => first | exact rfl | assumption); (case k7 => k_room); (case k8 => (try dsimp only); omega); (case m1 => k_mem); (case m2 => k_mem); (case mU => intro v'; k_upd); (case mn => k_ne); (case ml => assumption); (case m0 => assumption); (case mp => assumption)); intro v' l' h' tk' hR' F' N'; obtain ⟨⟨t', e1'⟩, tk2', e2'⟩ := hR'; subst e1'; rw [e2'] at N'; clear e2'; (rename Txt.slice _ _ _ = _ => hc'); rw [hc']; (try k_sweep)) | (k_unfold; (try dsimp only)) | walk1 | (dsimp only; walk1) | (leave1; (try dsimp only)))
  · exact hC _ _ _ (by assumption) (by assumption)
end
end

end
section

/-! ## read_token's loop -/
section
section
variable (w : World) (k t : Nat → Tok) (x dx io dio pb fs : Nat) (wc text tok es ch : Str) (tst ttok te tc : Tok) (rest : Led) (q : Bool)
    (p : Program) (loose : List Str) (mean : ExcName → Option Value) (mg mb : Str → Option Value) (dp un : Nat) (gd : Option (List Code)) (outer : List Env)
    (A₀ : Around) (base h₀ : Heap) (L : Addr) (s : Shared) (R : Shared → Prop) (Q : Flow → Shared → Prop)

/-- a turn's opening at the text's end -/
theorem turn0E (G : Gr w dp un outer A₀ base h₀ p loose mean mg mb) (nx : Option Value) (vst vtok : Value) (pos : Int) (tp : Tok)
    (F : Fr h₀ L s.heap (cm x q es te nx)) (N : News h₀ L s.heap (lexLed w k t x dx io dio pb fs wc text vst vtok (.int pos tp) rest)) (hap : Apart x dx io dio pb fs rest)
    (hl : text.length < 1000) (hp : (text.length : Int) ≤ pos)
    (f1 : (Str.ofString "" == Str.ofString "\n") = false) (g0 : (((Str.ofString "").length : Int) != 0) = false) (g0' : (Str.ofString "").length < 100000)
    (h : ∀ h' tk' tc, Fr h₀ L h' (cm x q es te (some (.str "" tc))) → News h₀ L h' (lexLed w k t x dx io dio pb fs wc text vst vtok (.int pos tp) rest) →
      wpAny (model PySem.Challenge.pw_oc0295_01 w) (lexA dp un gd L outer) (execs capBig.1 (lexEnv L)) (TP R Q) (fun _ _ => False) { s with heap := h', toks := tk' }) :
    wpAny (model PySem.Challenge.pw_oc0295_01 w) (lexA dp un gd L outer) (execs capWh.1 (lexEnv L)) (TP R Q) (fun _ _ => False) s := by
  obtain ⟨B, X, T, hdp, hun⟩ := G
  obtain ⟨h1, h2, h3, h4, h5, h6, h7, h8, h9, h10, h11⟩ := hap
  iterate 56 (first | (k_here; (with_reducible show wpAny _ _ (call (Value.ref 556) _) _ _ _); k_dflt (refine' (readK0 _ _ _ _ _ _ _ _ _ _ _ _ _ _ ?m1 ?m2 ?ml ?mp).use ?k1 ?k2 ?k3 ?k4 ?k5 ?k6 ?k7 ?k8 ?_; (case k1 => k_asm); (case k2 => k_asm); (case k3 => k_asm); (case k4 => k_asm); (case k5 => k_asm); (case k6 => first | exact rfl | assumption); (case k7 => k_room); (case k8 => (try dsimp only); omega); (case m1 => k_mem); (case m2 => k_mem); (case ml => assumption); (case mp => assumption)); intro v' l' h' tk' hR' F' N'; obtain ⟨⟨t', e1'⟩, e2'⟩ := hR'; subst e1'; rw [e2'] at N'; clear e2'; (try k_sweep)) | (k_here; (with_reducible show wpAny _ _ (call (Value.ref 556) _) _ _ _); k_dflt (refine' (readK _ _ _ _ _ _ _ _ _ _ _ _ _ _ _ ?m1 ?m2 ?mU ?mn ?ml ?m0 ?mp).use ?k1 ?k2 ?k3 ?k4 ?k5 ?k6 ?k7 ?k8 ?_; (case k1 => k_asm); (case k2 => k_asm); (case k3 => k_asm); (case k4 => k_asm); (case k5 => k_asm); (case k6 => first | exact rfl | assumption); (case k7 => k_room); (case k8 => (try dsimp only); omega); (case m1 => k_mem); (case m2 => k_mem); (case mU => intro v'; k_upd); (case mn => k_ne); (case ml => assumption); (case m0 => assumption); (case mp => assumption)); intro v' l' h' tk' hR' F' N'; obtain ⟨⟨t', e1'⟩, tk2', e2'⟩ := hR'; subst e1'; rw [e2'] at N'; clear e2'; (rename Txt.slice _ _ _ = _ => hc'); rw [hc']; (try k_sweep)) | (k_unfold; (try dsimp only)) | walk1 | (dsimp only; walk1) | (leave1; (try dsimp only)))
  exact h _ _ _ (fr_eq cm_next (by assumption)) (by assumption)
/-- a turn's end in a word, at the text's end -/
theorem turnAE (G : Gr w dp un outer A₀ base h₀ p loose mean mg mb) (vp vtok : Value)
    (F : Fr h₀ L s.heap (cm x q es te (some (.str "" tc)))) (N : News h₀ L s.heap (lexLed w k t x dx io dio pb fs wc text (.str "a" tst) vtok vp rest)) (hap : Apart x dx io dio pb fs rest)
    (e1 : (((Str.ofString "").length : Int) != 0) = false) (hcl' : (Str.ofString "").length < 100000)
    (g1 : inS "'\"" "a" = false) (g2 : inS "\\" "a" = false) (g3 : (Str.ofString "a" == Str.ofString " ") = false)
    (hN : ∀ h' tk', Fr h₀ L h' (cm x q es te (some (.str "" tc))) → News h₀ L h' (lexLed w k t x dx io dio pb fs wc text .none vtok vp rest) → Q .next { s with heap := h', toks := tk' }) :
    wpAny (model PySem.Challenge.pw_oc0295_01 w) (lexA dp un gd L outer) (execs capBig.1 (lexEnv L)) (TP R Q) (fun _ _ => False) s := by
  obtain ⟨B, X, T, hdp, hun⟩ := G
  obtain ⟨h1, h2, h3, h4, h5, h6, h7, h8, h9, h10, h11⟩ := hap
  repeat' (first | (k_here; (with_reducible show wpAny _ _ (call (Value.ref 556) _) _ _ _); k_dflt (refine' (readK0 _ _ _ _ _ _ _ _ _ _ _ _ _ _ ?m1 ?m2 ?ml ?mp).use ?k1 ?k2 ?k3 ?k4 ?k5 ?k6 ?k7 ?k8 ?_; (case k1 => k_asm); (case k2 => k_asm); (case k3 => k_asm); (case k4 => k_asm); (case k5 => k_asm); (case k6 => first | exact rfl | assumption); (case k7 => k_room); (case k8 => (try dsimp only); omega); (case m1 => k_mem); (case m2 => k_mem); (case ml => assumption); (case mp => assumption)); intro v' l' h' tk' hR' F' N'; obtain ⟨⟨t', e1'⟩, e2'⟩ := hR'; subst e1'; rw [e2'] at N'; clear e2'; (try k_sweep)) | (k_here; (with_reducible show wpAny _ _ (call (Value.ref 556) _) _ _ _); k_dflt (refine' (readK _ _ _ _ _ _ _ _ _ _ _ _ _ _ _ ?m1 ?m2 ?mU ?mn ?ml ?m0 ?mp).use ?k1 ?k2 ?k3 ?k4 ?k5 ?k6 ?k7 ?k8 ?_; (case k1 => k_asm); (case k2 => k_asm); (case k3 => k_asm); (case k4 => k_asm); (case k5 => k_asm); (case k6 => first | exact rfl | assumption); (case k7 => k_room); (case k8 => (try dsimp only); omega); (case m1 => k_mem); (case m2 => k_mem); (case mU => intro v'; k_upd); (case mn => k_ne); (case ml => assumption); (case m0 => assumption); (case mp => assumption)); intro v' l' h' tk' hR' F' N'; obtain ⟨⟨t', e1'⟩, tk2', e2'⟩ := hR'; subst e1'; rw [e2'] at N'; clear e2'; (rename Txt.slice _ _ _ = _ => hc'); rw [hc']; (try k_sweep)) | (k_unfold; (try dsimp only)) | walk1 | (dsimp only; walk1) | (leave1; (try dsimp only)))
  · exact hN _ _ (by assumption) (news_tl (by assumption))
theorem wh_go (h : wpAny (model PySem.Challenge.pw_oc0295_01 w) (lexA dp un gd L outer) (execs capWh.1 (lexEnv L)) (TP R Q) (fun _ _ => False) s)
    (hR : ∀ s', R s' → WhlRest PySem.Challenge.pw_oc0295_01 w (lexA dp un gd L outer) (fun _ _ => False) (lexEnv L) capWt.1 capWh.1 [] Q 0 s') :
    WhlRest PySem.Challenge.pw_oc0295_01 w (lexA dp un gd L outer) (fun _ _ => False) (lexEnv L) capWt.1 capWh.1 [] Q 0 s := by
  refine whl_turn (k := 0) (fun _ _ h => h.elim) ?_
  refine isTrue_plain (wpAny_Constant_bool (wpAny_truthy_bool ?_))
  refine WhlIf.yes rfl (wpAny_mono h (fun f s' hf => ?_) fun _ _ x => x)
  cases f with
  | next => exact hR _ hf
  | cont => exact hR _ hf
  | brk => exact hf
  | ret v => exact hf
end
end
/-! the lexer as a plain function of the signs -/
inductive LS
  | sp | a | sq | dq | es
def LS.text : LS → Str
  | .sp => " "
  | .a => "a"
  | .sq => "'"
  | .dq => "\""
  | .es => "\\"
def clk (c : Nat) : Bool := (48 ≤ c && c ≤ 58) || c == 43 || c == 45
def one (c : Nat) : Str := ⟨#[c]⟩
def strL (l : List Nat) : Str := ⟨l.toArray⟩
def lexGo : List Nat → LS → List Nat → Option (List Nat × List Nat × Bool)
  | [], .a, tok => if tok = [] then none else some (tok, [], true)
  | [], _, _ => none
  | c :: r, .sp, _ => if c = 92 then lexGo r .es [] else if c = 39 then lexGo r .sq [] else if clk c then lexGo r .a [c] else none
  | c :: r, .a, tok => if c = 32 then (if tok = [] then none else some (tok, r, false)) else if c = 34 then lexGo r .dq tok else if clk c then lexGo r .a (tok ++ [c]) else none
  | c :: r, .sq, tok => if c = 39 then (if tok = [] then none else lexGo r .a tok) else if clk c then lexGo r .sq (tok ++ [c]) else none
  | c :: r, .dq, tok => if c = 34 then (if tok = [] then none else lexGo r .a tok) else if clk c then lexGo r .dq (tok ++ [c]) else none
  | c :: r, .es, tok => if clk c then lexGo r .a (tok ++ [c]) else none
theorem clk_cases {c : Nat} (h : clk c = true) : c = 43 ∨ c = 45 ∨ c = 48 ∨ c = 49 ∨ c = 50 ∨ c = 51 ∨ c = 52 ∨ c = 53 ∨ c = 54 ∨ c = 55 ∨ c = 56 ∨ c = 57 ∨ c = 58 := by
  simp only [clk, Bool.or_eq_true, Bool.and_eq_true, decide_eq_true_eq, beq_iff_eq] at h
  omega
theorem inS_one (x : Str) (c : Nat) : inS x (one c) = decide (c ∈ x.cps.toList) := StrLaws.found_one x c
theorem one_len (c : Nat) : (one c).length = 1 := rfl
theorem one_true (c : Nat) : (((one c).length : Int) != 0) = true := rfl
theorem one_eq (c d : Nat) : (one c == one d) = decide (c = d) := by
  by_cases h : c = d
  · subst h; simp
  · rw [decide_eq_false h, beq_eq_false_iff_ne]
    intro e
    apply h
    have : (one c).cps = (one d).cps := congrArg Str.cps e
    simpa [one] using this
theorem nl_one : Str.ofString "\n" = one 10 := by decide +kernel
theorem bs_one : Str.ofString "\\" = one 92 := by decide +kernel
theorem sq_one : Str.ofString "'" = one 39 := by decide +kernel
theorem dq_one : Str.ofString "\"" = one 34 := by decide +kernel
theorem sp_one : Str.ofString " " = one 32 := by decide +kernel
theorem a_one : Str.ofString "a" = one 97 := by decide +kernel
theorem empty_strL : Str.ofString "" = strL [] := by decide +kernel
theorem ws_cps : (Str.ofString " \t\r\n").cps.toList = [32, 9, 13, 10] := by decide +kernel
theorem qs_cps : (Str.ofString "'\"").cps.toList = [39, 34] := by decide +kernel
theorem clk_ws {c : Nat} (h : clk c = true) : inS " \t\r\n" (one c) = false := by
  rw [inS_one, ws_cps, decide_eq_false_iff_not]
  have := clk_cases h
  simp only [List.mem_cons, List.not_mem_nil, or_false]
  omega
theorem clk_q {c : Nat} (h : clk c = true) : inS "'\"" (one c) = false := by
  rw [inS_one, qs_cps, decide_eq_false_iff_not]
  have := clk_cases h
  simp only [List.mem_cons, List.not_mem_nil, or_false]
  omega
theorem inS_o {c d : Nat} : inS (one d) (one c) = decide (c = d) := by
  rw [inS_one]
  simp [one]
theorem clk_e {c : Nat} (h : clk c = true) : inS "\\" (one c) = false := by
  rw [bs_one, inS_o, decide_eq_false_iff_not]
  have := clk_cases h
  omega
theorem inS_empty (c : Nat) : inS "" (one c) = false := by
  rw [empty_strL, inS_one]
  simp [strL]
theorem slice_one {text : Str} {pre r : List Nat} {c : Nat} (h : text.cps.toList = pre ++ c :: r) : Txt.slice text (some (pre.length : Int)) (some ((pre.length : Int) + 1)) = one c := by
  have hl : text.length = pre.length + (r.length + 1) := by
    unfold Str.length
    rw [← Array.length_toList, h]; simp
  have := StrLaws.sliceText_nat text (a := pre.length) (b := pre.length + 1) (by omega) (by omega)
  have e : Txt.slice text (some (pre.length : Int)) (some ((pre.length : Int) + 1)) = StrLaws.sliceText text (some (pre.length : Int)) (some (((pre.length + 1 : Nat)) : Int)) := rfl
  rw [e, this, h]
  simp [one]

theorem strL_len (l : List Nat) : (strL l).length = l.length := by simp [strL, Str.length]
theorem strL_app (l : List Nat) (c : Nat) : strL l ++ one c = strL (l ++ [c]) := by
  apply Str.ext'
  rw [Str.cps_append]
  simp [strL, one]
theorem strL_true {l : List Nat} (h : l ≠ []) : (((strL l).length : Int) != 0) = true := by
  rw [strL_len]
  cases l with
  | nil => exact absurd rfl h
  | cons a l => simp; omega
def Ended (b : Bool) (v : Value) : Prop := if b then v = .none else ∃ t, v = .str " " t
section
variable (w : World) (k t : Nat → Tok) (x dx io dio pb fs : Nat) (wc text : Str) (rest : Led)
    (p : Program) (loose : List Str) (mean : ExcName → Option Value) (mg mb : Str → Option Value) (dp un : Nat) (gd : Option (List Code)) (outer : List Env)
    (A₀ : Around) (base h₀ : Heap) (L : Addr) (Q : Flow → Shared → Prop)
theorem loopK (G : Gr w dp un outer A₀ base h₀ p loose mean mg mb) (hap : Apart x dx io dio pb fs rest) (hl : text.length < 1000) (hwc : inS wc (one 39) = false) (out rem' : List Nat) (b : Bool) :
    ∀ (rem : List Nat) (st : LS) (tok pre : List Nat) (q : Bool) (es : Str) (te : Tok) (nx : Option Value) (tst ttok tp : Tok) (s : Shared),
      text.cps.toList = pre ++ rem → lexGo rem st tok = some (out, rem', b) → (st = .sp → tok = []) → (st = .es → es = "a") → tok.length ≤ pre.length → (st = .a → tok ≠ []) →
      Fr h₀ L s.heap (cm x q es te nx) → News h₀ L s.heap (lexLed w k t x dx io dio pb fs wc text (.str st.text tst) (.str (strL tok) ttok) (.int (pre.length : Int) tp) rest) →
      (∀ h' tk' q' es' te' nx' vst' ttok' tp' pre', Ended b vst' → text.cps.toList = pre' ++ rem' → Fr h₀ L h' (cm x q' es' te' nx') → News h₀ L h' (lexLed w k t x dx io dio pb fs wc text vst' (.str (strL out) ttok') (.int ((pre'.length : Nat) : Int) tp') rest) → Q .next { s with heap := h', toks := tk' }) →
      WhlRest PySem.Challenge.pw_oc0295_01 w (lexA dp un gd L outer) (fun _ _ => False) (lexEnv L) capWt.1 capWh.1 [] Q 0 s
  | [], st, tok, pre, q, es, te, nx, tst, ttok, tp, s, ht, hg, h1, h2, h3, h4, F, N, post => by
    have hlen : text.length = pre.length := by
      unfold Str.length
      rw [← Array.length_toList, ht]; simp
    cases st with
    | a =>
      have hne : tok ≠ [] := h4 rfl
      have hg' : (tok, ([] : List Nat), true) = (out, rem', b) := by
        unfold lexGo at hg
        rw [if_neg hne] at hg
        exact Option.some.inj hg
      cases hg'
      refine wh_go (R := fun _ => False) _ _ _ _ _ _ _ _ ?_ (fun _ h => h.elim)
      refine turn0E w k t x dx io dio pb fs wc text es te rest q p loose mean mg mb dp un gd outer A₀ base h₀ L s _ Q G nx _ _ _ tp F N hap hl (by rw [hlen]; exact Int.le_refl _) (by decide +kernel) (by decide +kernel) (by decide +kernel) ?_
      intro h' tk' tc F' N'
      refine turnAE w k t x dx io dio pb fs wc text es tst te tc rest q p loose mean mg mb dp un gd outer A₀ base h₀ L _ _ Q G _ _ F' N' hap (by decide +kernel) (by decide +kernel) (by decide +kernel) (by decide +kernel) (by decide +kernel) ?_
      intro h'' tk'' F'' N''
      exact post h'' tk'' _ _ _ _ _ _ _ pre rfl ht F'' N''
    | sp => simp [lexGo] at hg
    | sq => simp [lexGo] at hg
    | dq => simp [lexGo] at hg
    | es => simp [lexGo] at hg
  | c :: r, st, tok, pre, q, es, te, nx, tst, ttok, tp, s, ht, hg, h1, h2, h3, h4, F, N, post => by
    have hlen : text.length = pre.length + (r.length + 1) := by
      unfold Str.length
      rw [← Array.length_toList, ht]; simp
    have ht' : text.cps.toList = (pre ++ [c]) ++ r := by rw [ht]; simp
    have hpl : ((pre ++ [c]).length : Int) = (pre.length : Int) + 1 := by simp
    have hc := slice_one ht
    have htl : (strL tok).length < 1000 := by rw [strL_len]; omega
    -- the opening
    have open_ : ∀ (R : Shared → Prop), c ≠ 10 → (∀ h' tk' tc tp', Fr h₀ L h' (cm x q es te (some (.str (one c) tc))) → News h₀ L h' (lexLed w k t x dx io dio pb fs wc text (.str st.text tst) (.str (strL tok) ttok) (.int ((pre ++ [c]).length : Int) tp') rest) →
        wpAny (model PySem.Challenge.pw_oc0295_01 w) (lexA dp un gd L outer) (execs capBig.1 (lexEnv L)) (TP R Q) (fun _ _ => False) { s with heap := h', toks := tk' }) →
        (∀ s', R s' → WhlRest PySem.Challenge.pw_oc0295_01 w (lexA dp un gd L outer) (fun _ _ => False) (lexEnv L) capWt.1 capWh.1 [] Q 0 s') →
        WhlRest PySem.Challenge.pw_oc0295_01 w (lexA dp un gd L outer) (fun _ _ => False) (lexEnv L) capWt.1 capWh.1 [] Q 0 s := by
      intro R hnl h hR
      refine wh_go (R := R) _ _ _ _ _ _ _ _ ?_ hR
      refine turn0 w k t x dx io dio pb fs wc text es (one c) te rest q p loose mean mg mb dp un gd outer A₀ base h₀ L s R Q G nx _ _ _ tp F N hap hl (by omega) (by omega) hc (by rw [nl_one, one_eq]; exact decide_eq_false hnl) (by decide +kernel) (by decide +kernel) ?_
      intro h' tk' tc tp' F' N'
      exact h h' tk' tc tp' F' (by rw [hpl]; exact N')
    -- going on
    have go : ∀ (st' : LS) (tok' : List Nat), lexGo r st' tok' = some (out, rem', b) → (st' = .sp → tok' = []) → tok'.length ≤ (pre ++ [c]).length → ∀ (q' : Bool) (es' : Str) (te' : Tok) (nx' : Option Value) (tst' ttok' tp' : Tok) (h' : Heap) (tk' : Nat), (st' = .es → es' = "a") → (st' = .a → tok' ≠ []) →
        Fr h₀ L h' (cm x q' es' te' nx') → News h₀ L h' (lexLed w k t x dx io dio pb fs wc text (.str st'.text tst') (.str (strL tok') ttok') (.int ((pre ++ [c]).length : Int) tp') rest) →
        WhlRest PySem.Challenge.pw_oc0295_01 w (lexA dp un gd L outer) (fun _ _ => False) (lexEnv L) capWt.1 capWh.1 [] Q 0 { s with heap := h', toks := tk' } := by
      intro st' tok' hg' a1 a2 q' es' te' nx' tst' ttok' tp' h' tk' a3 a4 F' N'
      exact loopK G hap hl hwc out rem' b r st' tok' (pre ++ [c]) q' es' te' nx' tst' ttok' tp' _ ht' hg' a1 a3 a2 a4 F' N' (fun h'' tk'' => post h'' tk'')
    have l1 : ∀ (c' : Nat), (tok ++ [c']).length ≤ (pre ++ [c]).length := by intro c'; simp; omega
    have l2 : tok.length ≤ (pre ++ [c]).length := by simp; omega
    have hcl : (one c).length < 1000 := by rw [one_len]; omega
    have hcl' : (one c).length < 100000 := by rw [one_len]; omega
    cases st with
    | sp =>
      have e0 := h1 rfl
      subst e0
      have hcc : c = 92 ∨ c = 39 ∨ clk c = true := by
        unfold lexGo at hg
        split at hg
        · exact .inl (by assumption)
        · split at hg
          · exact .inr (.inl (by assumption))
          · split at hg
            · exact .inr (.inr (by assumption))
            · cases hg
      have hws : inS " \t\r\n" (one c) = false := by
        rcases hcc with h | h | h
        · subst h; decide +kernel
        · subst h; decide +kernel
        · exact clk_ws h
      refine open_ (fun s' => WhlRest PySem.Challenge.pw_oc0295_01 w (lexA dp un gd L outer) (fun _ _ => False) (lexEnv L) capWt.1 capWh.1 [] Q 0 s') (by intro e; subst e; exact absurd hcc (by decide)) ?_ (fun _ h => h)
      intro h' tk' tc tp' F' N'
      refine turnS w k t x dx io dio pb fs wc text es (one c) tst ttok te tc rest q p loose mean mg mb dp un gd outer A₀ base h₀ L _ _ Q G _ _ _ _ F' (by rw [empty_strL]; exact N') hap hcl hcl' (one_true c) hws (inS_empty c) rfl rfl rfl (by decide +kernel) ?_ ?_ ?_
      · intro he h'' tk'' te'' F'' N''
        have hc92 : c = 92 := by rw [bs_one, inS_o] at he; exact of_decide_eq_true he
        subst hc92
        unfold lexGo at hg
        rw [if_pos rfl] at hg
        exact go .es [] hg (fun e => by cases e) (by simp) _ _ _ _ _ _ _ _ _ (fun _ => rfl) (fun e => by cases e) F'' (by rw [empty_strL] at N''; exact bs_one ▸ N'')
      · intro he hb hq h'' tk'' F'' N''
        have hc39 : c = 39 := by
          rw [inS_one, qs_cps] at hq
          have := of_decide_eq_true hq
          simp only [List.mem_cons, List.not_mem_nil, or_false] at this
          rcases hcc with h | h | h
          · subst h; simp at this
          · exact h
          · have := clk_cases h; omega
        subst hc39
        unfold lexGo at hg
        rw [if_neg (by decide), if_pos rfl] at hg
        exact go .sq [] hg (fun e => by cases e) (by simp) _ _ _ _ _ _ _ _ _ (fun e => by cases e) (fun e => by cases e) F'' (by rw [empty_strL] at N''; exact sq_one ▸ N'')
      · intro he hb h'' tk'' tst'' F'' N''
        have hn92 : c ≠ 92 := by intro e; subst e; rw [bs_one, inS_o] at he; simp at he
        have hn39 : c ≠ 39 := by
          intro e; subst e
          rcases hb with hb | hb
          · rw [hwc] at hb; cases hb
          · rw [inS_one, qs_cps] at hb; simp at hb
        have hk : clk c = true := (hcc.resolve_left hn92).resolve_left hn39
        unfold lexGo at hg
        rw [if_neg hn92, if_neg hn39, if_pos hk] at hg
        exact go .a [c] hg (fun e => by cases e) (by simp) _ _ _ _ _ _ _ _ _ (fun e => by cases e) (fun _ => by simp) F'' N''
    | a =>
      have hcc : c = 32 ∨ c = 34 ∨ clk c = true := by
        unfold lexGo at hg
        split at hg
        · exact .inl (by assumption)
        · split at hg
          · exact .inr (.inl (by assumption))
          · split at hg
            · exact .inr (.inr (by assumption))
            · cases hg
      have hee : inS "\\" (one c) = false := by
        rcases hcc with h | h | h
        · subst h; decide +kernel
        · subst h; decide +kernel
        · exact clk_e h
      refine open_ (fun s' => WhlRest PySem.Challenge.pw_oc0295_01 w (lexA dp un gd L outer) (fun _ _ => False) (lexEnv L) capWt.1 capWh.1 [] Q 0 s') (by intro e; subst e; exact absurd hcc (by decide)) ?_ (fun _ h => h)
      intro h' tk' tc tp' F' N'
      refine turnA w k t x dx io dio pb fs wc text (strL tok) es (one c) tst ttok te tc rest q p loose mean mg mb dp un gd outer A₀ base h₀ L _ _ Q G _ _ _ _ F' N' hap htl hcl (by omega) hcl' (one_true c) rfl (inS_empty c) rfl hee (strL_true (h4 rfl)) (by decide +kernel) (by decide +kernel) (by decide +kernel) (by decide +kernel) (fun e => by cases e) ?_ ?_ ?_
      · intro _ hw h'' tk'' tst'' F'' N''
        have hc32 : c = 32 := by
          rw [inS_one, ws_cps] at hw
          have := of_decide_eq_true hw
          simp only [List.mem_cons, List.not_mem_nil, or_false] at this
          rcases hcc with h | h | h
          · exact h
          · omega
          · have := clk_cases h; omega
        subst hc32
        unfold lexGo at hg
        rw [if_pos rfl, if_neg (h4 rfl)] at hg
        cases hg
        exact post h'' tk'' _ _ _ _ _ _ _ (pre ++ [32]) ⟨_, rfl⟩ ht' F'' N''
      · intro _ hw hq h'' tk'' F'' N''
        have hc34 : c = 34 := by
          rw [inS_one, qs_cps] at hq
          have := of_decide_eq_true hq
          simp only [List.mem_cons, List.not_mem_nil, or_false] at this
          rcases hcc with h | h | h
          · omega
          · exact h
          · have := clk_cases h; omega
        subst hc34
        unfold lexGo at hg
        rw [if_neg (by decide), if_pos rfl] at hg
        exact go .dq tok hg (fun e => by cases e) l2 _ _ _ _ _ _ _ _ _ (fun e => by cases e) (fun e => by cases e) F'' (dq_one ▸ N'')
      · intro _ hw hq h'' tk'' ttok'' F'' N''
        have hn32 : c ≠ 32 := by intro e; subst e; rw [inS_one, ws_cps] at hw; simp at hw
        have hn34 : c ≠ 34 := by intro e; subst e; rw [inS_one, qs_cps] at hq; simp at hq
        have hk : clk c = true := (hcc.resolve_left hn32).resolve_left hn34
        unfold lexGo at hg
        rw [if_neg hn32, if_neg hn34, if_pos hk] at hg
        rw [strL_app] at N''
        exact go .a (tok ++ [c]) hg (fun e => by cases e) (l1 c) _ _ _ _ _ _ _ _ _ (fun e => by cases e) (fun _ => by simp) F'' N''
    | sq =>
      have hcc : (c = 39 ∧ tok ≠ []) ∨ (c ≠ 39 ∧ clk c = true) := by
        unfold lexGo at hg
        split at hg
        · split at hg
          · cases hg
          · exact .inl ⟨by assumption, by assumption⟩
        · split at hg
          · exact .inr ⟨by assumption, by assumption⟩
          · cases hg
      have hee : inS "\\" (one c) = false := by
        rcases hcc with h | h
        · rw [h.1]; decide +kernel
        · exact clk_e h.2
      refine open_ (fun s' => WhlRest PySem.Challenge.pw_oc0295_01 w (lexA dp un gd L outer) (fun _ _ => False) (lexEnv L) capWt.1 capWh.1 [] Q 0 s') (by intro e; subst e; revert hcc; simp [clk]) ?_ (fun _ h => h)
      intro h' tk' tc tp' F' N'
      refine turnQ w k t x dx io dio pb fs wc text (strL tok) es (one c) tst ttok te tc rest q p loose mean mg mb dp un gd outer A₀ base h₀ L _ _ Q G _ "'" _ F' N' hap hcl htl hcl' (one_true c) hee rfl (by decide +kernel) (by decide +kernel) ?_ ?_
      · intro hb h'' tk'' tst'' F'' N''
        have hc39 : c = 39 := by rw [sq_one, one_eq] at hb; exact of_decide_eq_true hb
        have hn : tok ≠ [] := by
          rcases hcc with h | h
          · exact h.2
          · exact absurd hc39 h.1
        subst hc39
        unfold lexGo at hg
        rw [if_pos rfl, if_neg hn] at hg
        exact go .a tok hg (fun e => by cases e) l2 _ _ _ _ _ _ _ _ _ (fun e => by cases e) (fun _ => hn) F'' N''
      · intro hb h'' tk'' ttok'' F'' N''
        have hn39 : c ≠ 39 := by rw [sq_one, one_eq] at hb; exact of_decide_eq_false hb
        have hk : clk c = true := by
          rcases hcc with h | h
          · exact absurd h.1 hn39
          · exact h.2
        unfold lexGo at hg
        rw [if_neg hn39, if_pos hk] at hg
        rw [strL_app] at N''
        exact go .sq (tok ++ [c]) hg (fun e => by cases e) (l1 c) _ _ _ _ _ _ _ _ _ (fun e => by cases e) (fun e => by cases e) F'' N''
    | dq =>
      have hcc : (c = 34 ∧ tok ≠ []) ∨ (c ≠ 34 ∧ clk c = true) := by
        unfold lexGo at hg
        split at hg
        · split at hg
          · cases hg
          · exact .inl ⟨by assumption, by assumption⟩
        · split at hg
          · exact .inr ⟨by assumption, by assumption⟩
          · cases hg
      have hee : inS "\\" (one c) = false := by
        rcases hcc with h | h
        · rw [h.1]; decide +kernel
        · exact clk_e h.2
      refine open_ (fun s' => WhlRest PySem.Challenge.pw_oc0295_01 w (lexA dp un gd L outer) (fun _ _ => False) (lexEnv L) capWt.1 capWh.1 [] Q 0 s') (by intro e; subst e; revert hcc; simp [clk]) ?_ (fun _ h => h)
      intro h' tk' tc tp' F' N'
      refine turnQ w k t x dx io dio pb fs wc text (strL tok) es (one c) tst ttok te tc rest q p loose mean mg mb dp un gd outer A₀ base h₀ L _ _ Q G _ "\"" _ F' N' hap hcl htl hcl' (one_true c) hee rfl (by decide +kernel) (by decide +kernel) ?_ ?_
      · intro hb h'' tk'' tst'' F'' N''
        have hc34 : c = 34 := by rw [dq_one, one_eq] at hb; exact of_decide_eq_true hb
        have hn : tok ≠ [] := by
          rcases hcc with h | h
          · exact h.2
          · exact absurd hc34 h.1
        subst hc34
        unfold lexGo at hg
        rw [if_pos rfl, if_neg hn] at hg
        exact go .a tok hg (fun e => by cases e) l2 _ _ _ _ _ _ _ _ _ (fun e => by cases e) (fun _ => hn) F'' N''
      · intro hb h'' tk'' ttok'' F'' N''
        have hn34 : c ≠ 34 := by rw [dq_one, one_eq] at hb; exact of_decide_eq_false hb
        have hk : clk c = true := by
          rcases hcc with h | h
          · exact absurd h.1 hn34
          · exact h.2
        unfold lexGo at hg
        rw [if_neg hn34, if_pos hk] at hg
        rw [strL_app] at N''
        exact go .dq (tok ++ [c]) hg (fun e => by cases e) (l1 c) _ _ _ _ _ _ _ _ _ (fun e => by cases e) (fun e => by cases e) F'' N''
    | es =>
      have e0 := h2 rfl
      subst e0
      have hk : clk c = true := by
        unfold lexGo at hg
        split at hg
        · assumption
        · cases hg
      refine open_ (fun s' => WhlRest PySem.Challenge.pw_oc0295_01 w (lexA dp un gd L outer) (fun _ _ => False) (lexEnv L) capWt.1 capWh.1 [] Q 0 s') (by intro e; subst e; revert hk; simp [clk]) ?_ (fun _ h => h)
      intro h' tk' tc tp' F' N'
      refine turnE w k t x dx io dio pb fs wc text (strL tok) (one c) tst ttok te tc rest q p loose mean mg mb dp un gd outer A₀ base h₀ L _ _ Q G _ F' N' hap hcl htl hcl' (one_true c) (by decide +kernel) (by decide +kernel) (by decide +kernel) (by decide +kernel) ?_
      intro h'' tk'' ttok'' F'' N''
      unfold lexGo at hg
      rw [if_pos hk] at hg
      rw [strL_app] at N''
      exact go .a (tok ++ [c]) hg (fun e => by cases e) (l1 c) _ _ _ _ _ _ _ _ _ (fun e => by cases e) (fun _ => by simp) F'' N''
end

end
end
end
section

/-! ## read_token -/
theorem cm_start {x : Nat} {q : Bool} {es : Str} {te : Tok} : (fun y => if y = Str.ofString "escapedstate" then some (.str es te) else if y = Str.ofString "quoted" then some (.bool q) else List.lookup y [(Str.ofString "self", Value.ref x)]) = cm x q es te none := by
  funext y
  by_cases h1 : y = Str.ofString "nextchar"
  · subst h1; rfl
  · by_cases h2 : y = Str.ofString "self"
    · subst h2; rfl
    · have : (y == Str.ofString "self") = false := beq_eq_false_iff_ne.mpr h2
      simp [cm, h1, h2, List.lookup, this]
theorem whileK {w : World} {dp un : Nat} {gd : Option (List Code)} {L : Addr} {outer : List Env} {Q : Flow → Shared → Prop} {E : Value → Shared → Prop} {s : Shared} {pos : Pos}
    (h : WhlRest PySem.Challenge.pw_oc0295_01 w (lexA dp un gd L outer) (fun _ _ => False) (lexEnv L) capWt.1 capWh.1 [] Q 0 s) :
    wpAny (model PySem.Challenge.pw_oc0295_01 w) (lexA dp un gd L outer) (exec (.While capWt.1 capWh.1 [] pos) (lexEnv L)) Q E s :=
  wpAny_mono (whl_start 0 h) (fun _ _ x => x) fun _ _ x => x.elim
example {M : Model} {A : Around} {E : Value → Shared → Prop} {s : Shared} {env : Env} {Q : Flow → Shared → Prop} (h : Q .next s) : wpAny M A (execs [] env) Q E s := by
  walk1
  exact h
section
local macro_rules | `(tactic| walk_at "compareOp Eq str str") => `(tactic| (k_here; refine' eqS_is ?e ?_; (case e => assumption)))
theorem readTokenK (w : World) (k t : Nat → Tok) (x dx io dio pb fs : Nat) (wc text : Str) (rest : Led) (hap : Apart x dx io dio pb fs rest) (hl : text.length < 1000) (hwc : inS wc (one 39) = false)
    (out rem rem' pre : List Nat) (b : Bool) (tst ttok tp : Tok) (ht : text.cps.toList = pre ++ rem) (hg : lexGo rem .sp [] = some (out, rem', b)) (ho : (strL out == Str.ofString "") = false) :
    Claim w 12 90 713 (lexLed w k t x dx io dio pb fs wc text (.str " " tst) (.str "" ttok) (.int (pre.length : Int) tp) rest) [.ref x]
      (fun v l => (∃ t, v = .str (strL out) t) ∧ ∃ vst' ttok' tp' pre', Ended b vst' ∧ text.cps.toList = pre' ++ rem' ∧ l = lexLed w k t x dx io dio pb fs wc text vst' (.str "" ttok') (.int ((pre' : List Nat).length : Int) tp') rest) := by
  intro p loose mean mg mb dp un gd cn cs a ccd cl outer A₀ base h₀ L m s Q E B F X N T hk hdp hun hret
  refine wpAny_call ?_
  k_enter
  iterate 10 (first | (k_unfold; (try dsimp only)) | walk1 | (dsimp only; walk1) | (leave1; (try dsimp only)))
  refine whileK ?_
  refine loopK w k t x dx io dio pb fs wc text rest p loose mean mg mb _ _ _ _ _ _ _ _ _ ⟨by k_asm, by k_asm, by k_asm, by k_room, by (try dsimp only); omega⟩ hap hl hwc out rem' b rem .sp [] pre false " " _ none tst ttok tp _ ht hg (fun _ => rfl) (fun e => by cases e) (Nat.zero_le _) (fun e => by cases e) (fr_eq cm_start (by assumption)) (by rw [← empty_strL]; assumption) ?_
  intro h' tk' q' es' te' nx' vst' ttok' tp' pre' hv hp' F' N'
  obtain ⟨h1, h2, h3, h4, h5, h6, h7, h8, h9, h10, h11⟩ := hap
  dsimp only
  repeat' (first | (k_unfold; (try dsimp only)) | walk1 | (dsimp only; walk1) | (leave1; (try dsimp only)))
  · exact hret _ _ _ _ ⟨⟨_, rfl⟩, _, _, _, _, hv, hp', rfl⟩ (by assumption) (by assumption)
  · exact hret _ _ _ _ ⟨⟨_, rfl⟩, _, _, _, _, hv, hp', rfl⟩ (by assumption) (by assumption)
theorem readTokenN (w : World) (k t : Nat → Tok) (x dx io dio pb fs : Nat) (wc text : Str) (rest : Led) (hap : Apart x dx io dio pb fs rest) (hl : text.length < 1000) (pos : Int) (hp : (text.length : Int) ≤ pos)
    (ttok tp : Tok) (g1 : (Str.ofString "" == Str.ofString "") = true) :
    Claim w 12 90 713 (lexLed w k t x dx io dio pb fs wc text .none (.str "" ttok) (.int pos tp) rest) [.ref x]
      (fun v l => v = .none ∧ ∃ ttok', l = lexLed w k t x dx io dio pb fs wc text .none (.str "" ttok') (.int pos tp) rest) := by
  intro p loose mean mg mb dp un gd cn cs a ccd cl outer A₀ base h₀ L m s Q E B F X N T hk hdp hun hret
  refine wpAny_call ?_
  k_enter
  iterate 10 (first | (k_unfold; (try dsimp only)) | walk1 | (dsimp only; walk1) | (leave1; (try dsimp only)))
  refine whileK ?_
  have G : Gr w (dp + 1) (un + 3) (envX cn cs L a ccd cl :: outer) _ base _ p loose mean mg mb := ⟨by k_asm, by k_asm, by k_asm, by k_room, by (try dsimp only); omega⟩
  refine wh_go (R := fun _ => False) _ _ _ _ _ _ _ _ ?_ (fun _ h => h.elim)
  refine turn0E w k t x dx io dio pb fs wc text " " _ rest false p loose mean mg mb _ _ _ _ _ _ _ _ _ _ _ G none _ _ _ tp (fr_eq cm_start (by assumption)) (by assumption) hap hl hp (by decide +kernel) (by decide +kernel) (by decide +kernel) ?_
  intro h' tk' tc F' N'
  refine turnN w k t x dx io dio pb fs wc text " " (Str.ofString "") _ tc rest false p loose mean mg mb _ _ _ _ _ _ _ _ _ _ _ G _ _ F' N' hap ?_
  intro h'' tk'' ttok'' F'' N''
  obtain ⟨h1, h2, h3, h4, h5, h6, h7, h8, h9, h10, h11⟩ := hap
  dsimp only
  repeat' (first | (k_unfold; (try dsimp only)) | walk1 | (dsimp only; walk1) | (leave1; (try dsimp only)))
  · exact hret _ _ _ _ ⟨rfl, _, rfl⟩ (by assumption) (by assumption)
end

end
section

/-! ## get_token, __next__ -/
theorem deq_noBool : typeLookup (.type "collections.deque") "__bool__" = pure none := by rw [typeLookup_type, builtinLookup_eq_fast]; kernel_rfl
theorem deq_slot_len : Slot "collections.deque" "__len__" "collections.deque.__len__" :=
  .of (owner := "collections.deque") (n := "__len__") (by rw [typeLookup_type, builtinLookup_eq_fast]; kernel_rfl) (by decide +kernel) (by decide +kernel) (by decide +kernel)
    (by first | exact .inl (by decide +kernel) | exact .inr (by decide +kernel)) (by rw [isSubtype_type]; kernel_rfl)
theorem deq_entry_len : entryFor table "collections.deque.__len__" = some Builtin.«collections.deque.__len__» := entryFor_of_tree (by kernel_rfl)
theorem deq_args_len (a : Value) : argsOk "collections.deque.__len__" ⟨[a], []⟩ := by unfold argsOk; kernel_rfl
theorem deq_type {s : Shared} {a : Addr} (ho : s.heap.get? a = some deq) : s.TypeIs (.ref a) "collections.deque" := ⟨_, ho, rfl⟩
theorem deq_truthy {prog : Program} {w : World} {A : Around} {E : Value → Shared → Prop} {s : Shared} {a : Addr} {Q : Bool → Shared → Prop} (ho : s.heap.get? a = some deq)
    (h : Q false { s with toks := s.toks + 1 + 1 }) : wpAny (model prog w) A (truthy (.ref a)) Q E s := by
  have body : wpAny (model prog w) A.in1 (Builtin.«len» ⟨[.ref a], []⟩) (fun fin s' => ∃ r, fin = .done (.ret r) ∧ (r = .int 0 (s.toks + 1) ∧ Q false s')) E s := by
    unfold Builtin.«len»
    refine wpAny_bind (m := oneArg "len" _) (wpAny_pure ?_)
    refine wpAny_bind (m := callSpecial? (.ref a) (Str.ofString "__len__")) (wpAny_callSpecial?_slot (name := Str.ofString "__len__") (deq_type ho) deq_slot_len
      (wpAny_call_entry deq_slot_len (deq_type ho) deq_entry_len ?_ (deq_args_len _)))
    show wpAny _ _ (do retInt (← Builtin.Deque.size (.ref a))) _ _ s
    unfold Builtin.Deque.size
    refine wpAny_bind (wpAny_bind (wpAny_bind (wpAny_load ho (wpAny_pure (wpAny_pure ?_)))))
    refine wpAny_bind (wpAny_mkInt (wpAny_pure ⟨_, rfl, ?_⟩))
    refine wpAny_bind (wpAny_holding (wpAny_pure ?_))
    refine wpAny_bind (wpAny_letGo ?_)
    exact wpAny_bind (wpAny_mkInt (wpAny_pure ⟨_, rfl, rfl, h⟩))
  have key : wpAny (model prog w) A (runValue (.builtin "len" ⟨[.ref a], []⟩)) (fun r s' => r = .int 0 (s.toks + 1) ∧ Q false s') E s := by
    refine wpAny_runValue (codeAny_builtin entry_len ?_)
    rw [Around.under_plainId plain_len _]
    exact wpAny_mono body (fun fin s' h' => by obtain ⟨r, rfl, hq⟩ := h'; exact hq) fun _ _ e => e
  unfold truthy
  first
    | refine wpAny_bind (wpAny_callSpecial?_none (name := Str.ofString "__bool__") (deq_type ho) deq_noBool ?_)
    | refine wpAny_bind (wpAny_pure (wpAny_bind (wpAny_callSpecial?_none (name := Str.ofString "__bool__") (deq_type ho) deq_noBool ?_)))
  first
    | refine wpAny_bind (wpAny_specialOf (name := Str.ofString "__len__") (deq_type ho) deq_slot_len.lookup ?_)
    | refine wpAny_bind (wpAny_pure (wpAny_bind (wpAny_specialOf (name := Str.ofString "__len__") (deq_type ho) deq_slot_len.lookup ?_)))
  first
    | exact wpAny_bind (wpAny_mono key (fun r s' h' => by obtain ⟨rfl, hq⟩ := h'; exact wpAny_pure hq) fun _ _ e => e)
    | exact wpAny_bind (wpAny_pure (wpAny_bind (wpAny_mono key (fun r s' h' => by obtain ⟨rfl, hq⟩ := h'; exact wpAny_pure hq) fun _ _ e => e)))
example {M : Model} {A : Around} {E : Value → Shared → Prop} {s : Shared} {env : Env} {Q : Flow → Shared → Prop} (h : Q .next s) : wpAny M A (execs [] env) Q E s := by
  walk1
  exact h
section
local macro_rules | `(tactic| walk_at "truthy ref") => `(tactic| (k_here; refine' deq_truthy ?h ?_; (case h => exact News.get (by k_asm) (by k_mem))))
theorem getTokenK (w : World) (k t : Nat → Tok) (x dx io dio pb fs : Nat) (wc text : Str) (rest : Led) (hap : Apart x dx io dio pb fs rest) (hl : text.length < 1000) (hwc : inS wc (one 39) = false)
    (out rem rem' pre : List Nat) (b : Bool) (tst ttok tp : Tok) (ht : text.cps.toList = pre ++ rem) (hg : lexGo rem .sp [] = some (out, rem', b)) (ho : (strL out == Str.ofString "") = false) :
    Claim w 16 110 706 (lexLed w k t x dx io dio pb fs wc text (.str " " tst) (.str "" ttok) (.int (pre.length : Int) tp) rest) [.ref x]
      (fun v l => (∃ t, v = .str (strL out) t) ∧ ∃ vst' ttok' tp' pre', Ended b vst' ∧ text.cps.toList = pre' ++ rem' ∧ l = lexLed w k t x dx io dio pb fs wc text vst' (.str "" ttok') (.int ((pre' : List Nat).length : Int) tp') rest) := by
  intro p loose mean mg mb dp un gd cn cs a ccd cl outer A₀ base h₀ L m s Q E B F X N T hk hdp hun hret
  refine wpAny_call ?_
  k_enter
  repeat' (first | (k_here; (with_reducible show wpAny _ _ (call (Value.ref 713) _) _ _ _); k_dflt (refine' (readTokenN _ _ _ _ _ _ _ _ _ _ _ _ ?ma ?ml _ ?mp _ _ ?mg).use ?k1 ?k2 ?k3 ?k4 ?k5 ?k6 ?k7 ?k8 ?_; (case k1 => k_asm); (case k2 => k_asm); (case k3 => k_asm); (case k4 => k_asm); (case k5 => k_asm); (case k6 => first | exact rfl | assumption); (case k7 => k_room); (case k8 => (try dsimp only); omega); (case ma => assumption); (case ml => assumption); (case mp => assumption); (case mg => assumption)); intro v' l' h' tk' hR' F' N'; obtain ⟨e1', ttok', e2'⟩ := hR'; subst e1'; rw [e2'] at N'; clear e2'; (try k_sweep)) | (k_here; (with_reducible show wpAny _ _ (call (Value.ref 713) _) _ _ _); k_dflt (refine' (readTokenK _ _ _ _ _ _ _ _ _ _ _ _ ?ma ?ml ?mw _ _ _ _ _ _ _ _ ?mt ?mg ?mo).use ?k1 ?k2 ?k3 ?k4 ?k5 ?k6 ?k7 ?k8 ?_; (case k1 => k_asm); (case k2 => k_asm); (case k3 => k_asm); (case k4 => k_asm); (case k5 => k_asm); (case k6 => first | exact rfl | assumption); (case k7 => k_room); (case k8 => (try dsimp only); omega); (case ma => assumption); (case ml => assumption); (case mw => assumption); (case mt => assumption); (case mg => assumption); (case mo => assumption)); intro v' l' h' tk' hR' F' N'; obtain ⟨⟨t', e1'⟩, vst', ttok', tp', pre', hv', hp', e2'⟩ := hR'; subst e1'; rw [e2'] at N'; clear e2'; (try k_sweep)) | (k_unfold; (try dsimp only)) | walk1 | (dsimp only; walk1) | (leave1; (try dsimp only)))
  · exact hret _ _ _ _ ⟨⟨_, rfl⟩, _, _, _, _, by assumption, by assumption, rfl⟩ (by assumption) (by assumption)
theorem getTokenN (w : World) (k t : Nat → Tok) (x dx io dio pb fs : Nat) (wc text : Str) (rest : Led) (hap : Apart x dx io dio pb fs rest) (hl : text.length < 1000) (pos : Int) (hp : (text.length : Int) ≤ pos)
    (ttok tp : Tok) (g1 : (Str.ofString "" == Str.ofString "") = true) :
    Claim w 16 110 706 (lexLed w k t x dx io dio pb fs wc text .none (.str "" ttok) (.int pos tp) rest) [.ref x]
      (fun v l => v = .none ∧ ∃ ttok', l = lexLed w k t x dx io dio pb fs wc text .none (.str "" ttok') (.int pos tp) rest) := by
  intro p loose mean mg mb dp un gd cn cs a ccd cl outer A₀ base h₀ L m s Q E B F X N T hk hdp hun hret
  refine wpAny_call ?_
  k_enter
  repeat' (first | (k_here; (with_reducible show wpAny _ _ (call (Value.ref 713) _) _ _ _); k_dflt (refine' (readTokenN _ _ _ _ _ _ _ _ _ _ _ _ ?ma ?ml _ ?mp _ _ ?mg).use ?k1 ?k2 ?k3 ?k4 ?k5 ?k6 ?k7 ?k8 ?_; (case k1 => k_asm); (case k2 => k_asm); (case k3 => k_asm); (case k4 => k_asm); (case k5 => k_asm); (case k6 => first | exact rfl | assumption); (case k7 => k_room); (case k8 => (try dsimp only); omega); (case ma => assumption); (case ml => assumption); (case mp => assumption); (case mg => assumption)); intro v' l' h' tk' hR' F' N'; obtain ⟨e1', ttok', e2'⟩ := hR'; subst e1'; rw [e2'] at N'; clear e2'; (try k_sweep)) | (k_here; (with_reducible show wpAny _ _ (call (Value.ref 713) _) _ _ _); k_dflt (refine' (readTokenK _ _ _ _ _ _ _ _ _ _ _ _ ?ma ?ml ?mw _ _ _ _ _ _ _ _ ?mt ?mg ?mo).use ?k1 ?k2 ?k3 ?k4 ?k5 ?k6 ?k7 ?k8 ?_; (case k1 => k_asm); (case k2 => k_asm); (case k3 => k_asm); (case k4 => k_asm); (case k5 => k_asm); (case k6 => first | exact rfl | assumption); (case k7 => k_room); (case k8 => (try dsimp only); omega); (case ma => assumption); (case ml => assumption); (case mw => assumption); (case mt => assumption); (case mg => assumption); (case mo => assumption)); intro v' l' h' tk' hR' F' N'; obtain ⟨⟨t', e1'⟩, vst', ttok', tp', pre', hv', hp', e2'⟩ := hR'; subst e1'; rw [e2'] at N'; clear e2'; (try k_sweep)) | (k_unfold; (try dsimp only)) | walk1 | (dsimp only; walk1) | (leave1; (try dsimp only)))
  · exact hret _ _ _ _ ⟨rfl, _, rfl⟩ (by assumption) (by assumption)
end

end
section

/-! ## __next__, __iter__ -/
theorem owit_stopS {M : Model} {A A₀ : Around} {E : Value → Shared → Prop} {s : Shared} {base g G : Heap} {outer : List Env} {L a e t : Addr} {m : Str → Option Value} {name : Str} {scope : Scope} {cd : Value} {vs : List Value} {news : Led} {X : String} {Q : Option Value → Shared → Prop}
    (R : RaisedS base G (envOf name scope L a cd :: outer) e (.type X) t vs news s.heap) (hsm : G.UpToSlots s.heap) (F : Fr g L G m) (B : Below A₀ base outer g) (hsub : isSubtype (.type X) (.type "StopIteration") = pure true)
    (k : ∀ g', KtsTurn (outer.filterMap (·.frame)) g g' → Fr g' L s.heap m → News g' L s.heap news → Q none s) : OwitStop M A Q E (.ref e) s := by
  obtain ⟨⟨B', hB, hBG, hl, hfl, _⟩, _⟩ := R
  have hL : B'.get? L = none := by
    obtain ⟨_, ⟨L', _, hf, hn', _⟩, _⟩ := hfl.2.2.1
    obtain rfl : L = L' := Option.some.inj hf
    exact hn'
  obtain ⟨ob, hob, hobc⟩ := hfl.there
  have hT : s.TypeIs (.ref e) X := (show ∃ o, s.heap.get? e = some o ∧ o.cls = .type X from ⟨ob, hob, hobc⟩)
  obtain ⟨g', T', F', _⟩ := kts_ground B F hBG hfl.1 hsm
  unfold OwitStop
  refine wpAny_isInstance hT hsub ?_
  show (if true = true then Q none s else E (.ref e) s)
  rw [if_pos rfl]
  exact k g' T' F' fun q hq => ⟨hfl.1 _ _ (hl q hq).1, (fun z => by have := (hl q hq).1; rw [z, hL] at this; cases this), T'.none_ _ (kts_none F.keep (hl q hq).2.1)⟩
section
theorem nextK (w : World) (k t : Nat → Tok) (x dx io dio pb fs : Nat) (wc text : Str) (rest : Led) (hap : Apart x dx io dio pb fs rest) (hl : text.length < 1000) (hwc : inS wc (one 39) = false)
    (out rem rem' pre : List Nat) (b : Bool) (tst ttok tp : Tok) (ht : text.cps.toList = pre ++ rem) (hg : lexGo rem .sp [] = some (out, rem', b)) (ho : (strL out == Str.ofString "") = false) :
    Claim w 20 130 742 (lexLed w k t x dx io dio pb fs wc text (.str " " tst) (.str "" ttok) (.int (pre.length : Int) tp) rest) [.ref x]
      (fun v l => (∃ t, v = .str (strL out) t) ∧ ∃ vst' ttok' tp' pre', Ended b vst' ∧ text.cps.toList = pre' ++ rem' ∧ l = lexLed w k t x dx io dio pb fs wc text vst' (.str "" ttok') (.int ((pre' : List Nat).length : Int) tp') rest) := by
  intro p loose mean mg mb dp un gd cn cs a ccd cl outer A₀ base h₀ L m s Q E B F X N T hk hdp hun hret
  refine wpAny_call ?_
  k_enter
  repeat' (first | (k_here; (with_reducible show wpAny _ _ (call (Value.ref 706) _) _ _ _); k_dflt (refine' (getTokenN _ _ _ _ _ _ _ _ _ _ _ _ ?ma ?ml _ ?mp _ _ ?mg).use ?k1 ?k2 ?k3 ?k4 ?k5 ?k6 ?k7 ?k8 ?_; (case k1 => k_asm); (case k2 => k_asm); (case k3 => k_asm); (case k4 => k_asm); (case k5 => k_asm); (case k6 => first | exact rfl | assumption); (case k7 => k_room); (case k8 => (try dsimp only); omega); (case ma => assumption); (case ml => assumption); (case mp => assumption); (case mg => assumption)); intro v' l' h' tk' hR' F' N'; obtain ⟨e1', ttok', e2'⟩ := hR'; subst e1'; rw [e2'] at N'; clear e2'; (try k_sweep)) | (k_here; (with_reducible show wpAny _ _ (call (Value.ref 706) _) _ _ _); k_dflt (refine' (getTokenK _ _ _ _ _ _ _ _ _ _ _ _ ?ma ?ml ?mw _ _ _ _ _ _ _ _ ?mt ?mg ?mo).use ?k1 ?k2 ?k3 ?k4 ?k5 ?k6 ?k7 ?k8 ?_; (case k1 => k_asm); (case k2 => k_asm); (case k3 => k_asm); (case k4 => k_asm); (case k5 => k_asm); (case k6 => first | exact rfl | assumption); (case k7 => k_room); (case k8 => (try dsimp only); omega); (case ma => assumption); (case ml => assumption); (case mw => assumption); (case mt => assumption); (case mg => assumption); (case mo => assumption)); intro v' l' h' tk' hR' F' N'; obtain ⟨⟨t', e1'⟩, vst', ttok', tp', pre', hv', hp', e2'⟩ := hR'; subst e1'; rw [e2'] at N'; clear e2'; (try k_sweep)) | (k_unfold; (try dsimp only)) | walk1 | (dsimp only; walk1) | (leave1; (try dsimp only)))
  · exact hret _ _ _ _ ⟨⟨_, rfl⟩, _, _, _, _, by assumption, by assumption, rfl⟩ (by assumption) (by assumption)
theorem iterK (w : World) (news : Led) (x : Addr) : Claim w 2 20 735 news [.ref x] (fun v l => v = .ref x ∧ l = news) := by
  intro p loose mean mg mb dp un gd cn cs a ccd cl outer A₀ base h₀ L m s Q E B F X N T hk hdp hun hret
  refine wpAny_call ?_
  k_enter
  repeat' (first | (k_here; (with_reducible show wpAny _ _ (call (Value.ref 706) _) _ _ _); k_dflt (refine' (getTokenN _ _ _ _ _ _ _ _ _ _ _ _ ?ma ?ml _ ?mp _ _ ?mg).use ?k1 ?k2 ?k3 ?k4 ?k5 ?k6 ?k7 ?k8 ?_; (case k1 => k_asm); (case k2 => k_asm); (case k3 => k_asm); (case k4 => k_asm); (case k5 => k_asm); (case k6 => first | exact rfl | assumption); (case k7 => k_room); (case k8 => (try dsimp only); omega); (case ma => assumption); (case ml => assumption); (case mp => assumption); (case mg => assumption)); intro v' l' h' tk' hR' F' N'; obtain ⟨e1', ttok', e2'⟩ := hR'; subst e1'; rw [e2'] at N'; clear e2'; (try k_sweep)) | (k_here; (with_reducible show wpAny _ _ (call (Value.ref 706) _) _ _ _); k_dflt (refine' (getTokenK _ _ _ _ _ _ _ _ _ _ _ _ ?ma ?ml ?mw _ _ _ _ _ _ _ _ ?mt ?mg ?mo).use ?k1 ?k2 ?k3 ?k4 ?k5 ?k6 ?k7 ?k8 ?_; (case k1 => k_asm); (case k2 => k_asm); (case k3 => k_asm); (case k4 => k_asm); (case k5 => k_asm); (case k6 => first | exact rfl | assumption); (case k7 => k_room); (case k8 => (try dsimp only); omega); (case ma => assumption); (case ml => assumption); (case mw => assumption); (case mt => assumption); (case mg => assumption); (case mo => assumption)); intro v' l' h' tk' hR' F' N'; obtain ⟨⟨t', e1'⟩, vst', ttok', tp', pre', hv', hp', e2'⟩ := hR'; subst e1'; rw [e2'] at N'; clear e2'; (try k_sweep)) | (k_unfold; (try dsimp only)) | walk1 | (dsimp only; walk1) | (leave1; (try dsimp only)))
  · exact hret _ _ _ _ ⟨rfl, rfl⟩ (by assumption) (by assumption)
theorem nextN (w : World) (k t : Nat → Tok) (x dx io dio pb fs : Nat) (wc text : Str) (rest : Led) (hap : Apart x dx io dio pb fs rest) (hl : text.length < 1000) (pos : Int) (hp : (text.length : Int) ≤ pos)
    (ttok tp : Tok) (g1 : (Str.ofString "" == Str.ofString "") = true)
    (p : Program) (loose : List Str) (mean : ExcName → Option Value) (mg mb : Str → Option Value) (dp un : Nat) (gd : Option (List Code)) (cn : Str) (cs : Scope) (a : Addr) (ccd : Value) (outer : List Env)
    (A₀ : Around) (base h₀ : Heap) (L : Addr) (m : Str → Option Value) (s : Shared) (Q : Option Value → Shared → Prop) (E : Value → Shared → Prop) (A' : Around)
    (B : Below A₀ base outer h₀) (F : Fr h₀ L s.heap m) (X : (K w.params).In h₀) (N : News h₀ L s.heap (lexLed w k t x dx io dio pb fs wc text .none (.str "" ttok) (.int pos tp) rest)) (T : Top p loose mean mg mb h₀) (hk : cs.kind = .function) (hdp : dp + 20 < recursionLimit) (hun : un + 130 < cLine)
    (h : ∀ (g' h' : Heap) (tk' : Nat) (ttok' : Tok), KtsTurn (outer.filterMap (·.frame)) h₀ g' → Fr g' L h' m → News g' L h' (lexLed w k t x dx io dio pb fs wc text .none (.str "" ttok') (.int pos tp) rest) → Q none { s with heap := h', toks := tk' }) :
    wpAny (model PySem.Challenge.pw_oc0295_01 w) (ktrTop dp un gd cn cs L a ccd [] outer) (call (.ref 742) [.ref x]) (fun v s' => Q (some v) s') (OwitStop (model PySem.Challenge.pw_oc0295_01 w) A' Q E) s := by
  have kd : KtsDicts [] h₀ := ktsDicts_nil
  refine wpAny_call ?_
  k_enter
  rename Fr h₀ L _ m => FG'
  repeat' (first | (k_here; (with_reducible show wpAny _ _ (call (Value.ref 706) _) _ _ _); k_dflt (refine' (getTokenN _ _ _ _ _ _ _ _ _ _ _ _ ?ma ?ml _ ?mp _ _ ?mg).use ?k1 ?k2 ?k3 ?k4 ?k5 ?k6 ?k7 ?k8 ?_; (case k1 => k_asm); (case k2 => k_asm); (case k3 => k_asm); (case k4 => k_asm); (case k5 => k_asm); (case k6 => first | exact rfl | assumption); (case k7 => k_room); (case k8 => (try dsimp only); omega); (case ma => assumption); (case ml => assumption); (case mp => assumption); (case mg => assumption)); intro v' l' h' tk' hR' F' N'; obtain ⟨e1', ttok', e2'⟩ := hR'; subst e1'; rw [e2'] at N'; clear e2'; (try k_sweep)) | (k_here; (with_reducible show wpAny _ _ (call (Value.ref 706) _) _ _ _); k_dflt (refine' (getTokenK _ _ _ _ _ _ _ _ _ _ _ _ ?ma ?ml ?mw _ _ _ _ _ _ _ _ ?mt ?mg ?mo).use ?k1 ?k2 ?k3 ?k4 ?k5 ?k6 ?k7 ?k8 ?_; (case k1 => k_asm); (case k2 => k_asm); (case k3 => k_asm); (case k4 => k_asm); (case k5 => k_asm); (case k6 => first | exact rfl | assumption); (case k7 => k_room); (case k8 => (try dsimp only); omega); (case ma => assumption); (case ml => assumption); (case mw => assumption); (case mt => assumption); (case mg => assumption); (case mo => assumption)); intro v' l' h' tk' hR' F' N'; obtain ⟨⟨t', e1'⟩, vst', ttok', tp', pre', hv', hp', e2'⟩ := hR'; subst e1'; rw [e2'] at N'; clear e2'; (try k_sweep)) | (k_unfold; (try dsimp only)) | walk1 | (dsimp only; walk1) | (leave1; (try dsimp only)))
  · rename RaisedS _ _ _ _ _ _ _ _ _ => rs
    refine owit_stopS (name := cn) (scope := cs) (a := a) (cd := ccd) (outer := outer) (X := "StopIteration") rs (by assumption) FG' B (by rw [isSubtype_type]; kernel_rfl) ?_
    intro g' T' F' N'
    exact h _ _ _ _ T' F' N'
end

end
section

/-! ## list(lex) -/
inductive LexAll : List Nat → List (List Nat) → Prop
  | last {rem out : List Nat} (hg : lexGo rem .sp [] = some (out, [], true)) (ho : (strL out == Str.ofString "") = false) : LexAll rem [out]
  | more {rem rem' out : List Nat} {r : List (List Nat)} (hg : lexGo rem .sp [] = some (out, rem', false)) (ho : (strL out == Str.ofString "") = false) (h : LexAll rem' r) : LexAll rem (out :: r)
@[reducible] def lstO (acc : Array Value) (c : Nat) : Obj := { cls := .type "list", dict := none, data := .seq acc c, slots := #[] }
inductive StrVs : List (List Nat) → List Value → Prop
  | nil : StrVs [] []
  | cons {x : List Nat} {t : Tok} {r : List (List Nat)} {vs : List Value} (h : StrVs r vs) : StrVs (x :: r) (.str (strL x) t :: vs)
theorem Apart.add {x dx io dio pb fs S : Nat} {o : Obj} {rest : Led} (h : Apart x dx io dio pb fs rest) (h1 : dx ≠ S) (h2 : dio ≠ S) : Apart x dx io dio pb fs ((S, o) :: rest) :=
  ⟨h.h1, h.h2, h.h3, h.h4, h.h5, h.h6, h.h7, h.h8, h.h9, fun p hp => by
    rcases List.mem_cons.mp hp with rfl | hp
    · exact h1.symm
    · exact h.h10 p hp, fun p hp => by
    rcases List.mem_cons.mp hp with rfl | hp
    · exact h2.symm
    · exact h.h11 p hp⟩
structure NoneAt (S x dx io dio pb fs : Nat) (rest : Led) : Prop where
  n1 : x ≠ S
  n2 : dx ≠ S
  n3 : io ≠ S
  n4 : dio ≠ S
  n5 : pb ≠ S
  n6 : fs ≠ S
  n7 : ∀ p ∈ rest, p.1 ≠ S
theorem lexLed_set {w : World} {k t : Nat → Tok} {x dx io dio pb fs S : Nat} {wc text : Str} {vst vtok vp : Value} {rest : Led} {o o' : Obj} {h₀ h h' : Heap} {L : Addr} (hn : NoneAt S x dx io dio pb fs rest)
    (N : News h₀ L h (lexLed w k t x dx io dio pb fs wc text vst vtok vp ((S, o) :: rest))) (hs : Heap.SameBut S h h') (ho : h'.get? S = some o') :
    News h₀ L h' (lexLed w k t x dx io dio pb fs wc text vst vtok vp ((S, o') :: rest)) := by
  refine News.setAt (own := [(x, instObj 745 dx), (dx, dictOf (lexEs w k t io pb fs wc vst vtok) 19), (io, instObj 610 dio), (dio, dictOf (ioEs w (k 20) (k 21) (k 22) (t 20) (t 21) "\n" text vp) 3), (pb, deq), (fs, deq)]) (rest := rest) N ?_ hn.n7 hs ho
  intro p hp
  simp only [List.mem_cons, List.not_mem_nil, or_false] at hp
  rcases hp with rfl | rfl | rfl | rfl | rfl | rfl
  · exact hn.n1
  · exact hn.n2
  · exact hn.n3
  · exact hn.n4
  · exact hn.n5
  · exact hn.n6
theorem shlex_next {w : World} : findIn (K w.params) (.ref 745) "__next__" = some (some (.ref 742)) := by k_is
theorem shlex_nextF {w : World} : isFn (K w.params) (.ref 742) = true := by k_is
theorem shlex_iter {w : World} : findIn (K w.params) (.ref 745) "__iter__" = some (some (.ref 735)) := by k_is
theorem shlex_iterF {w : World} : isFn (K w.params) (.ref 735) = true := by k_is
theorem shlex_len {w : World} : findIn (K w.params) (.ref 745) "__len__" = some none := by k_is
theorem shlex_hint {w : World} : findIn (K w.params) (.ref 745) "__length_hint__" = some none := by k_is
section
variable {w : World} {k t : Nat → Tok} {x dx io dio pb fs S : Nat} {wc text : Str} {rest : Led}
    {p : Program} {loose : List Str} {mean : ExcName → Option Value} {mg mb : Str → Option Value} {dp un : Nat} {gd : Option (List Code)} {cn : Str} {cs : Scope} {a : Addr} {ccd : Value} {outer : List Env}
    {A₀ : Around} {base h₀ : Heap} {L : Addr} {m : Str → Option Value} {res : Value} {R : Result → Shared → Prop}
theorem lexStep (B : Below A₀ base outer h₀) (X : (K w.params).In h₀) (T : Top p loose mean mg mb h₀) (hk : cs.kind = .function) (hd : dp + 20 < recursionLimit) (hu : un + 140 < cLine)
    (hap : Apart x dx io dio pb fs rest) (hn : NoneAt S x dx io dio pb fs rest) (hl : text.length < 1000) (hwc : inS wc (one 39) = false)
    {out rem rem' pre : List Nat} {b : Bool} {tst ttok tp : Tok} {acc : Array Value} {c : Nat} {s : Shared} (hacc : acc.size < 100) (ht : text.cps.toList = pre ++ rem) (hg : lexGo rem .sp [] = some (out, rem', b)) (ho : (strL out == Str.ofString "") = false)
    (F : Fr h₀ L s.heap m) (N : News h₀ L s.heap (lexLed w k t x dx io dio pb fs wc text (.str " " tst) (.str "" ttok) (.int (pre.length : Int) tp) ((S, lstO acc c) :: rest)))
    (h : ∀ h' tk' t' vst' ttok' tp' pre' c', Ended b vst' → text.cps.toList = pre' ++ rem' → Fr h₀ L h' m →
      News h₀ L h' (lexLed w k t x dx io dio pb fs wc text vst' (.str "" ttok') (.int ((pre' : List Nat).length : Int) tp') ((S, lstO (acc.push (.str (strL out) t')) c') :: rest)) →
      codeAny (model PySem.Challenge.pw_oc0295_01 w) (ktrTop dp un gd cn cs L a ccd [] outer) (.builtin "list.extend.loop" ⟨[.ref S, .ref x, res], []⟩) R { s with heap := h', toks := tk' }) :
    codeAny (model PySem.Challenge.pw_oc0295_01 w) (ktrTop dp un gd cn cs L a ccd [] outer) (.builtin "list.extend.loop" ⟨[.ref S, .ref x, res], []⟩) R s := by
  refine codeAny_builtin PySem.F.entry_extend_loop ?_
  rw [Around.under_plainId PySem.F.plain_extend_loop _]
  show wpAny _ (ktrTop dp (un + 1) gd cn cs L a ccd [] outer) (pyNext (.ref x) >>= _) _ _ s
  refine wpAny_bind (owit_next (f := 742) (C := 745) (od := some (dictOf (lexEs w k t io pb fs wc (.str " " tst) (.str "" ttok)) 19)) (ox := instObj 745 dx) F X (InstAt.of_news N (.head _) (.tail _ (.head _))) shlex_next shlex_nextF ?_)
  refine (nextK w k t x dx io dio pb fs wc text ((S, lstO acc c) :: rest) (hap.add hn.n2 hn.n4) hl hwc out rem rem' pre b tst ttok tp ht hg ho).use B F X N T hk (by omega) (by omega) ?_
  intro v l h' tk' hR F' N'
  obtain ⟨⟨t', rfl⟩, vst', ttok', tp', pre', hv, hp', rfl⟩ := hR
  show wpAny _ _ (updateSeq S (·.push (.str (strL out) t')) >>= _) _ _ _
  have hS' : h'.get? S = some (lstO acc c) := N'.get (.tail _ (.tail _ (.tail _ (.tail _ (.tail _ (.tail _ (.head _)))))))
  have hsb : Heap.SameBut S h' (h'.update S (Obj.mapSeq (·.push (.str (strL out) t')))) := Heap.SameBut.update ..
  refine wpAny_bind (wpAny_updateSeq hS' rfl (wpAny_pure ⟨plainId_quiet PySem.F.plain_extend_loop _, ?_⟩) (by have : sizeLine = sizeLine := rfl; simp only [sizeLine]; omega) (by show (acc.push _).size ≤ sizeLine + 1; rw [Array.size_push]; simp only [sizeLine]; omega))
  exact h _ _ _ _ _ _ _ _ hv hp' (F'.update N' (.tail _ (.tail _ (.tail _ (.tail _ (.tail _ (.tail _ (.head _))))))) hsb) (lexLed_set hn N' hsb (Heap.get?_update_self _ hS' rfl))
theorem lexEnd (B : Below A₀ base outer h₀) (X : (K w.params).In h₀) (T : Top p loose mean mg mb h₀) (hk : cs.kind = .function) (hd : dp + 20 < recursionLimit) (hu : un + 140 < cLine)
    (hap : Apart x dx io dio pb fs rest) (hn : NoneAt S x dx io dio pb fs rest) (hl : text.length < 1000) {pos : Int} (hp : (text.length : Int) ≤ pos) {ttok tp : Tok} {acc : Array Value} {c : Nat} {s : Shared}
    (F : Fr h₀ L s.heap m) (N : News h₀ L s.heap (lexLed w k t x dx io dio pb fs wc text .none (.str "" ttok) (.int pos tp) ((S, lstO acc c) :: rest)))
    (h : ∀ g' h' tk', KtsTurn (outer.filterMap (·.frame)) h₀ g' → Fr g' L h' m → News g' L h' ((S, lstO acc c) :: rest) → R (.ok (.ret res)) { s with heap := h', toks := tk' }) :
    codeAny (model PySem.Challenge.pw_oc0295_01 w) (ktrTop dp un gd cn cs L a ccd [] outer) (.builtin "list.extend.loop" ⟨[.ref S, .ref x, res], []⟩) R s := by
  refine codeAny_builtin PySem.F.entry_extend_loop ?_
  rw [Around.under_plainId PySem.F.plain_extend_loop _]
  show wpAny _ (ktrTop dp (un + 1) gd cn cs L a ccd [] outer) (pyNext (.ref x) >>= _) _ _ s
  have key : ∀ (E : Value → Shared → Prop) (Qn : Option Value → Shared → Prop), (∀ (g' h' : Heap) (tk' : Nat) (ttok' : Tok), KtsTurn (outer.filterMap (·.frame)) h₀ g' → Fr g' L h' m → News g' L h' (lexLed w k t x dx io dio pb fs wc text .none (.str "" ttok') (.int pos tp) ((S, lstO acc c) :: rest)) → Qn none { s with heap := h', toks := tk' }) →
      wpAny (model PySem.Challenge.pw_oc0295_01 w) (ktrTop dp (un + 1) gd cn cs L a ccd [] outer) (pyNext (.ref x)) Qn E s := fun E Qn hq =>
    owit_next (f := 742) (C := 745) (od := some (dictOf (lexEs w k t io pb fs wc .none (.str "" ttok)) 19)) (ox := instObj 745 dx) F X (InstAt.of_news N (.head _) (.tail _ (.head _))) shlex_next shlex_nextF
      (nextN w k t x dx io dio pb fs wc text ((S, lstO acc c) :: rest) (hap.add hn.n2 hn.n4) hl pos hp ttok tp (by decide) p loose mean mg mb dp (un + 1) gd cn cs a ccd outer A₀ base h₀ L m s Qn E _ B F X N T hk (by omega) (by omega) hq)
  refine wpAny_bind (key _ _ fun g' h' tk' ttok' hT F' N' => ?_)
  exact wpAny_pure (h g' h' tk' hT F' (news_sub N' fun q hq => .tail _ (.tail _ (.tail _ (.tail _ (.tail _ (.tail _ hq)))))))
theorem lexLoop (B : Below A₀ base outer h₀) (X : (K w.params).In h₀) (T : Top p loose mean mg mb h₀) (hk : cs.kind = .function) (hd : dp + 20 < recursionLimit) (hu : un + 140 < cLine)
    (hap : Apart x dx io dio pb fs rest) (hn : NoneAt S x dx io dio pb fs rest) (hl : text.length < 1000) (hwc : inS wc (one 39) = false) {rem : List Nat} {ws : List (List Nat)} (hw : LexAll rem ws) :
    ∀ {pre : List Nat} {tst ttok tp : Tok} {acc : Array Value} {c : Nat} {s : Shared}, acc.size + ws.length < 100 → text.cps.toList = pre ++ rem →
    Fr h₀ L s.heap m → News h₀ L s.heap (lexLed w k t x dx io dio pb fs wc text (.str " " tst) (.str "" ttok) (.int (pre.length : Int) tp) ((S, lstO acc c) :: rest)) →
    (∀ g' h' tk' vs c', StrVs ws vs → KtsTurn (outer.filterMap (·.frame)) h₀ g' → Fr g' L h' m → News g' L h' ((S, lstO ⟨acc.toList ++ vs⟩ c') :: rest) → R (.ok (.ret res)) { s with heap := h', toks := tk' }) →
    codeAny (model PySem.Challenge.pw_oc0295_01 w) (ktrTop dp un gd cn cs L a ccd [] outer) (.builtin "list.extend.loop" ⟨[.ref S, .ref x, res], []⟩) R s := by
  have hpush : ∀ (acc : Array Value) (v : Value) (vs : List Value), (acc.push v).toList ++ vs = acc.toList ++ v :: vs := fun acc v vs => by simp
  induction hw with
  | last hg ho =>
    intro pre tst ttok tp acc c s hz ht F N h
    refine lexStep B X T hk hd hu hap hn hl hwc (by omega) ht hg ho F N fun h' tk' t' vst' ttok' tp' pre' c' hv hp' F' N' => ?_
    have hv' : vst' = .none := hv
    subst hv'
    refine lexEnd B X T hk hd hu hap hn hl (pos := (pre'.length : Int)) ?_ F' N' fun g' h'' tk'' hT F'' N'' => ?_
    · have : text.cps.toList.length = pre'.length := by rw [hp', List.append_nil]
      have e2 : text.length = text.cps.toList.length := by simp [Str.length]
      omega
    · refine h g' h'' tk'' [.str (strL _) t'] c' (.cons .nil) hT F'' ?_
      rw [← hpush, List.append_nil]
      exact N''
  | more hg ho _ ih =>
    intro pre tst ttok tp acc c s hz ht F N h
    simp only [List.length_cons] at hz
    refine lexStep B X T hk hd hu hap hn hl hwc (by omega) ht hg ho F N fun h' tk' t' vst' ttok' tp' pre' c' hv hp' F' N' => ?_
    obtain ⟨tv, hv'⟩ : ∃ t, vst' = .str " " t := hv
    subst hv'
    refine ih (by rw [Array.size_push]; omega) hp' F' N' fun g' h'' tk'' vs c'' hvs hT F'' N'' => ?_
    rw [hpush] at N''
    exact h g' h'' tk'' _ c'' (.cons hvs) hT F'' N''
end
theorem noneAt_new {w : World} {k t : Nat → Tok} {x dx io dio pb fs : Nat} {wc text : Str} {vst vtok vp : Value} {rest : Led} {h₀ h : Heap} {L : Addr} (N : News h₀ L h (lexLed w k t x dx io dio pb fs wc text vst vtok vp rest)) :
    NoneAt h.objs.size x dx io dio pb fs rest :=
  have a := N.apart
  ⟨a _ (.head _), a _ (.tail _ (.head _)), a _ (.tail _ (.tail _ (.head _))), a _ (.tail _ (.tail _ (.tail _ (.head _)))), a _ (.tail _ (.tail _ (.tail _ (.tail _ (.head _))))), a _ (.tail _ (.tail _ (.tail _ (.tail _ (.tail _ (.head _)))))),
    fun q hq => a q (.tail _ (.tail _ (.tail _ (.tail _ (.tail _ (.tail _ hq))))))⟩
theorem lexLed_in {w : World} {k t : Nat → Tok} {x dx io dio pb fs : Nat} {wc text : Str} {vst vtok vp : Value} {rest : Led} {h₀ h : Heap} {L : Addr} {e : Addr × Obj} (N : News h₀ L h (e :: lexLed w k t x dx io dio pb fs wc text vst vtok vp rest)) :
    News h₀ L h (lexLed w k t x dx io dio pb fs wc text vst vtok vp (e :: rest)) := by
  refine news_sub N fun q hq => ?_
  simp only [lexLed, List.mem_cons] at hq ⊢
  rcases hq with h | h | h | h | h | h | h | h <;> simp only [h, true_or, or_true]
section
variable {w : World} {k t : Nat → Tok} {x dx io dio pb fs : Nat} {wc text : Str} {rest : Led}
    {p : Program} {loose : List Str} {mean : ExcName → Option Value} {mg mb : Str → Option Value} {dp un : Nat} {gd : Option (List Code)} {cn : Str} {cs : Scope} {a : Addr} {ccd : Value} {outer : List Env}
    {A₀ : Around} {base h₀ : Heap} {L : Addr} {m : Str → Option Value} {Q E : Value → Shared → Prop} {s : Shared}
theorem listLex (B : Below A₀ base outer h₀) (F : Fr h₀ L s.heap m) (X : (K w.params).In h₀) (T : Top p loose mean mg mb h₀) (hk : cs.kind = .function) (hd : dp + 20 < recursionLimit) (hu : un + 150 < cLine)
    (hap : Apart x dx io dio pb fs rest) (hl : text.length < 1000) (hwc : inS wc (one 39) = false) {rem : List Nat} {ws : List (List Nat)} (hw : LexAll rem ws) (hz : ws.length < 90) (ht : text.cps.toList = rem) {tst ttok tp : Tok}
    (N : News h₀ L s.heap (lexLed w k t x dx io dio pb fs wc text (.str " " tst) (.str "" ttok) (.int 0 tp) rest))
    (h : ∀ g' h' tk' S vs c', StrVs ws vs → KtsTurn (outer.filterMap (·.frame)) h₀ g' → Fr g' L h' m → News g' L h' ((S, lstO ⟨vs⟩ c') :: rest) → Q (.ref S) { s with heap := h', toks := tk' }) :
    wpAny (model PySem.Challenge.pw_oc0295_01 w) (ktrTop dp un gd cn cs L a ccd [] outer) (call (.type "list") [.ref x]) Q E s := by
  have hn := noneAt_new N
  refine callType_codes (Q₁ := fun obj s₁ => obj = .ref s.heap.objs.size ∧ s₁ = { s with heap := s.heap.push { cls := .type "list", data := .seq #[] } }) PySem.F.called_list (PySem.F.typeCall_list_1 _) PySem.F.entry_list_init
    (code_list_new _ ⟨rfl, rfl⟩) fun obj s₁ h₁ => ?_
  obtain ⟨rfl, rfl⟩ := h₁
  have hS : (s.heap.push { cls := .type "list", data := .seq #[] }).get? s.heap.objs.size = some (lstO #[] 0) := Heap.get?_push_size _ rfl
  refine ⟨⟨_, hS, rfl⟩, PySem.F.args_list_init_2 _ _, ?_⟩
  have N₁ := lexLed_in (News.push F N (lstO #[] 0))
  have F₁ := F.push (lstO #[] 0)
  generalize s.heap.objs.size = S at hn hS N₁ ⊢
  show wpAny _ (ktrTop dp (un + 2) gd cn cs L a ccd [] outer) (do let old ← Builtin.List.listItems (.ref S); Builtin.List.listUpdate (.ref S) (fun _ => #[]); letGo old.toList.reverse; Builtin.List.listExtendWith (.ref S) (.ref x) .none) _ _ _
  refine wpAny_bind ?_
  unfold Builtin.List.listItems
  refine wpAny_bind (wpAny_seqItems hS rfl (wpAny_pure ?_))
  show wpAny _ _ (updateSeq S (fun _ => #[]) >>= fun _ => letGo (#[] : Array Value).toList.reverse >>= fun _ => Builtin.List.listExtendWith (.ref S) (.ref x) .none) _ _ _
  refine wpAny_bind (wpAny_updateSeq hS rfl ?_)
  have sb₂ : Heap.SameBut S (s.heap.push (lstO #[] 0)) _ := Heap.SameBut.update (s.heap.push (lstO #[] 0)) S (Obj.mapSeq (fun _ => (#[] : Array Value)))
  have hS₂ := Heap.get?_update_self (Obj.mapSeq (fun _ => (#[] : Array Value))) hS rfl
  have N₂ := lexLed_set hn N₁ sb₂ hS₂
  have F₂ := F₁.update N₁ (.tail _ (.tail _ (.tail _ (.tail _ (.tail _ (.tail _ (.head _))))))) sb₂
  refine wpAny_bind (wpAny_letGo ?_)
  generalize (s.heap.push (lstO #[] 0)).update S (Obj.mapSeq fun _ => #[]) = h₂ at hS₂ N₂ F₂ ⊢
  clear hS sb₂ N₁ F₁
  have I := InstAt.of_news N₂ (.head _) (.tail _ (.head _))
  unfold Builtin.List.listExtendWith
  refine wpAny_bind (I.type.here ?_)
  have h1 : Builtin.List.listSameRef (.ref S) (.ref x) = false := by simp [Builtin.List.listSameRef, hn.n1.symm]
  have h2 : (Value.ref 745 == Value.type "list") = false := by decide
  have h3 : (Value.ref 745 == Value.type "tuple") = false := by decide
  simp only [h1, h2, h3, Bool.or_false, Bool.false_eq_true, if_false]
  refine wpAny_bind (owit_iter F₂ X I shlex_iter shlex_iterF ?_)
  refine (iterK w _ x).use B F₂ X N₂ T hk (by omega) (by omega) ?_
  intro v l h₃ tk₃ hR F₃ N₃
  obtain ⟨rfl, rfl⟩ := hR
  have I₃ := InstAt.of_news N₃ (.head _) (.tail _ (.head _))
  refine owit_it F₃ X I₃ shlex_next ?_
  refine wpAny_bind (wpAny_holding ?_)
  unfold Builtin.List.listLengthHint
  refine wpAny_bind (wpAny_bind (I₃.type.here ((looks_findIn (X.keeps F₃.keep) shlex_len).here ?_)))
  show wpAny _ _ (specialOf (Value.ref x) (Str.ofString "__length_hint__") >>= _) _ _ _
  refine wpAny_bind (wpAny_bind (I₃.type.here ((looks_findIn (X.keeps F₃.keep) shlex_hint).here ?_)))
  refine wpAny_pure ?_
  show wpAny _ _ (rule "list.extend.makes-room" >>= fun _ => Builtin.List.listTouch (.ref S) >>= fun _ =>
    again (.builtin "list.extend.loop" ⟨[.ref S, .ref x, .none], []⟩)) _ _ _
  refine wpAny_bind (wpAny_rule ?_)
  refine wpAny_bind ?_
  show wpAny _ _ (updateSeq S (·.push .none) >>= fun _ => updateSeq S (·.pop)) _ _ _
  have hS₃ := N₃.get (.tail _ (.tail _ (.tail _ (.tail _ (.tail _ (.tail _ (.head _)))))))
  refine wpAny_bind (wpAny_updateSeq hS₃ rfl ?_)
  have hS₄ := Heap.get?_update_self (Obj.mapSeq (·.push Value.none)) hS₃ rfl
  refine wpAny_updateSeq (hz := by seq_fits) hS₄ rfl ?_
  have hS₅ := Heap.get?_update_self (Obj.mapSeq (·.pop)) hS₄ rfl
  have sb₄ : Heap.SameBut S h₃ _ := Heap.SameBut.update h₃ S (Obj.mapSeq (·.push Value.none))
  have N₄ := lexLed_set hn N₃ sb₄ hS₄
  have F₄ := F₃.update N₃ (.tail _ (.tail _ (.tail _ (.tail _ (.tail _ (.tail _ (.head _))))))) sb₄
  have sb₅ := Heap.SameBut.update (h₃.update S (Obj.mapSeq (·.push Value.none))) S (Obj.mapSeq (·.pop))
  have N₅ := lexLed_set hn N₄ sb₅ hS₅
  have F₅ := F₄.update N₄ (.tail _ (.tail _ (.tail _ (.tail _ (.tail _ (.tail _ (.head _))))))) sb₅
  refine wpAny_pure ⟨plainId_quiet PySem.F.plain_extend_loop _, ?_⟩
  refine lexLoop (un := un + 1) (S := S) (acc := #[]) B X T hk (by omega) (by omega) hap hn hl hwc hw (pre := []) (by simp; omega) ht F₅ N₅ ?_
  intro g' h' tk' vs c' hvs hT F' N'
  exact ⟨rfl, h g' h' tk' S vs c' hvs hT F' N'⟩
end

end
section

/-! ## deque() -/
theorem deq_mro : mroOf (.type "collections.deque") = pure [.type "collections.deque", .type "object"] := by rw [mroOf_type]; kernel_rfl
theorem deq_lookup_new : typeLookup (.type "collections.deque") "__new__" = pure (some (.builtin "collections.deque.__new__")) := by rw [typeLookup_type, builtinLookup_eq_fast]; kernel_rfl
theorem deq_slot_init : Slot "collections.deque" "__init__" "collections.deque.__init__" :=
  .of (owner := "collections.deque") (n := "__init__") (by rw [typeLookup_type, builtinLookup_eq_fast]; kernel_rfl) (by decide +kernel) (by decide +kernel) (by decide +kernel)
    (by first | exact .inl (by decide +kernel) | exact .inr (by decide +kernel)) (by rw [isSubtype_type]; kernel_rfl)
theorem deq_sub : isSubtype (.type "collections.deque") (.type "collections.deque") = pure true := by rw [isSubtype_type]; kernel_rfl
theorem deq_called : TypeCalled "collections.deque" "collections.deque.__new__" "collections.deque.__init__" :=
  ⟨by decide +kernel, by decide +kernel, ⟨_, _, deq_mro⟩, madeBy_type deq_mro deq_lookup_new (by decide +kernel), by decide +kernel, by rw [isSubtype_type]; kernel_rfl, deq_slot_init⟩
theorem deq_typeCall : checkTypeCall "collections.deque" ⟨[], []⟩ = pure () := by kernel_rfl
theorem deq_newCall : checkBuiltinCall "collections.deque.__new__" ⟨[.type "collections.deque"], []⟩ = pure () := by kernel_rfl
theorem deq_entry_new : entryFor table "collections.deque.__new__" = some Builtin.«collections.deque.__new__» := entryFor_of_tree (by kernel_rfl)
theorem deq_entry_init : entryFor table "collections.deque.__init__" = some Builtin.«collections.deque.__init__» := entryFor_of_tree (by kernel_rfl)
theorem deq_plain_new : plainId "collections.deque.__new__" = true := by decide +kernel
theorem deq_args_init (a : Value) : argsOk "collections.deque.__init__" ⟨[a], []⟩ := by unfold argsOk; kernel_rfl
theorem deq_noDict : typeHasDict (.type "collections.deque") = false := by decide +kernel
section
variable {prog : Program} {w : World} {A : Around} {E : Value → Shared → Prop} {s : Shared}
theorem code_deq_new {Q₁ : Value → Shared → Prop} (h : Q₁ (.ref s.heap.objs.size) { s with heap := s.heap.push deq }) :
    codeAny (model prog w) A (.call (.builtin "collections.deque.__new__") ⟨[.type "collections.deque"], []⟩) (wants Q₁ E) s := by
  refine codeAny_of_tree ?_
  show wpAny _ A.in1 (do checkBuiltinCall "collections.deque.__new__" ⟨[.type "collections.deque"], []⟩; again (.builtin "collections.deque.__new__" ⟨[.type "collections.deque"], []⟩)) _ _ s
  refine wpAny_bind (wpAny_of_eq deq_newCall (wpAny_pure ⟨plainId_quiet deq_plain_new _, codeAny_builtin deq_entry_new ?_⟩))
  rw [Around.under_plainId deq_plain_new _]
  unfold Builtin.«collections.deque.__new__» Builtin.Deque.newArgs Builtin.Deque.new Builtin.Deque.ty
  have hsub := deq_sub
  have hnd := deq_noDict
  obtain ⟨hp, g, d, tk, os⟩ := s
  dsimp only
  wp_walk

  exact h
theorem deq_init {a : Addr} {Q : Fin → Shared → Prop} (ho : s.heap.get? a = some deq) (h : ∀ h', Heap.SameBut a s.heap h' → h'.get? a = some deq → Q (.done (.ret .none)) { s with heap := h' }) :
    wpAny (model prog w) A (Builtin.«collections.deque.__init__» ⟨[.ref a], []⟩) Q E s := by
  show wpAny _ _ (do setField (.ref a) 0 .none; Builtin.Deque.clear (.ref a); ret .none) _ _ _
  have ho₂ := Heap.get?_update_self (Obj.mapFields (·.setIfInBounds 0 Value.none)) ho rfl
  refine wpAny_bind (wpAny_setField ho rfl (by decide) ?_)
  unfold Builtin.Deque.clear Builtin.Deque.items
  refine wpAny_bind (wpAny_bind (wpAny_bind (wpAny_fieldsOf ho₂ rfl (wpAny_pure ?_))))
  exact wpAny_pure (wpAny_pure (h _ (Heap.SameBut.update ..) ho₂))
theorem dequeK {Q : Value → Shared → Prop} {h₀ : Heap} {L : Addr} {m : Str → Option Value} {news : Led} (F : Fr h₀ L s.heap m) (N : News h₀ L s.heap news)
    (h : ∀ (d : Addr) h', Fr h₀ L h' m → News h₀ L h' ((d, deq) :: news) → (∀ q ∈ news, q.1 < d) → Q (.ref d) { s with heap := h' }) :
    wpAny (model prog w) A (call (.type "collections.deque") []) Q E s := by
  refine callType_codes (Q₁ := fun obj s₁ => obj = .ref s.heap.objs.size ∧ s₁ = { s with heap := s.heap.push deq }) deq_called deq_typeCall deq_entry_init (code_deq_new ⟨rfl, rfl⟩) fun obj s₁ h₁ => ?_
  obtain ⟨rfl, rfl⟩ := h₁
  have hS : (s.heap.push deq).get? s.heap.objs.size = some deq := Heap.get?_push_size _ rfl
  have N₁ := News.push F N deq
  have F₁ := F.push deq
  refine ⟨⟨_, hS, rfl⟩, deq_args_init _, ?_⟩
  refine deq_init hS fun h' hs ho => ?_
  refine ⟨rfl, h _ _ (F₁.update N₁ (.head _) hs) (News.setHead N₁ (fun q hq => N.apart q hq) hs ho) fun q hq => Heap.lt_size (N q hq).1⟩
end

end
section

/-! ## StringIO(text) -/
section
theorem ioInitK (w : World) (text : Str) (t : Tok) (x dx : Nat) (news : Led) (h1 : x ≠ dx) (h2 : ∀ p ∈ news, p.1 ≠ dx) : Claim w 6 40 380 ((x, instObj 610 dx) :: (dx, dictOf [] 0) :: news) [.ref x, .str text t]
    (fun v l => v = .none ∧ ∃ k0 k1 k2 t0 t1 tp, l = (x, instObj 610 dx) :: (dx, dictOf (ioEs w k0 k1 k2 t0 t1 "\n" text (.int 0 tp)) 3) :: news) := by
  intro p loose mean mg mb dp un gd cn cs a ccd cl outer A₀ base h₀ L m s Q E B F X N T hk hdp hun hret
  refine wpAny_call ?_
  k_enter
  repeat' (first | (k_unfold; (try dsimp only)) | walk1 | (dsimp only; walk1) | (leave1; (try dsimp only)))

  · exact hret _ _ _ _ ⟨rfl, _, _, _, _, _, _, rfl⟩ (by assumption) (by assumption)
theorem io_here {w : World} {prog : Program} {h : Heap} (X : (K w.params).In h) : Looks (model prog w) h (Bind.madeHere "object.__new__" (.ref 610)) () := Looks.of_peek X (by kernel_rfl)
theorem io_made {w : World} {prog : Program} {h : Heap} (X : (K w.params).In h) : Looks (model prog w) h (Bind.madeBy (.ref 610)) none := Looks.of_peek X (by kernel_rfl)
theorem io_isType {w : World} {prog : Program} {h : Heap} (X : (K w.params).In h) : Looks (model prog w) h (isType (.ref 610)) true := Looks.of_peek X (by kernel_rfl)
theorem io_typ {w : World} {prog : Program} {h : Heap} (X : (K w.params).In h) : Looks (model prog w) h (isInstance (.ref 610) (.type "type")) true := Looks.of_peek X (by kernel_rfl)
theorem io_top {w : World} {prog : Program} {h : Heap} (X : (K w.params).In h) : Looks (model prog w) h (isSubtype (.ref 610) (.type "object")) true := Looks.of_peek X (by kernel_rfl)
theorem io_self {w : World} {prog : Program} {h : Heap} (X : (K w.params).In h) : Looks (model prog w) h (isSubtype (.ref 610) (.ref 610)) true := Looks.of_peek X (by kernel_rfl)
theorem io_calls {w : World} {prog : Program} {h : Heap} (X : (K w.params).In h) : Looks (model prog w) h (specialOf (.ref 610) "__call__") (some (.builtin "type.__call__")) := Looks.of_peek X (by kernel_rfl)
theorem io_base {w : World} {prog : Program} {h : Heap} (X : (K w.params).In h) : Looks (model prog w) h (Bind.staticBase (.ref 610)) (.type "object") := Looks.of_peek X (by kernel_rfl)
theorem io_made2 {w : World} {prog : Program} {h : Heap} (X : (K w.params).In h) : Looks (model prog w) h (Bind.madeBy (.type "object")) (some "object.__new__") := Looks.of_peek X (by kernel_rfl)
theorem io_cls {w : World} {h : Heap} (X : (K w.params).In h) : ∃ oc od cd sl, h.get? 610 = some ⟨oc, od, .cls cd, sl⟩ ∧ cd.abstract = false ∧ cd.hasDel = false ∧ cd.mro.isEmpty = false :=
  ⟨_, _, _, _, X 610 _ rfl, rfl, rfl, rfl⟩
theorem io_objNew {w : World} {prog : Program} {A : Around} {R : Result → Shared → Prop} {h : Heap} {g : Array GenState} {d : Drawn} {t : Nat} {os : OsState} (X : (K w.params).In h)
    (hq : R (.ok (.ret (.ref (h.objs.size + 1)))) ⟨(h.push emptyDict).push (instObj 610 h.objs.size), g, d, t, os⟩) :
    codeAny (model prog w) A (.call (.builtin "object.__new__") ⟨[.ref 610], []⟩) R ⟨h, g, d, t, os⟩ := by
  have made := io_made (prog := prog) X
  have here := io_here (prog := prog) X
  have isT := io_isType (prog := prog) X
  have typ := io_typ (prog := prog) X
  have top := io_top (prog := prog) X
  have self := io_self (prog := prog) X
  have base := io_base (prog := prog) X
  have made2 := io_made2 (prog := prog) X
  obtain ⟨oc, od, cd, sl, hC, e1, e2, e4⟩ := io_cls X
  have F := PySem.F.objNew
  refine codeAny_call_builtin_code (Code.quiet_builtin _ F.quiet) ?_
  simp only [checkBuiltinCall, F.kind, F.split, F.row]
  have args : Bind.checkArgs "object.__new__" ⟨.hand, "object.__new__", "__new__", .cls, []⟩ ⟨[.ref 610], []⟩ = pure () := by kernel_rfl
  rw [args]
  repeat (first | simp only [bne_self_eq_false, Bool.false_eq_true, if_false] | lk)
  refine codeAny_builtin F.entry ?_
  unfold Builtin.«object.__new__»
  have fin : ∀ A', wpAny (model prog w) A' (do
      let d ← if typeHasDict (.ref 610) then some <$> alloc { cls := .type "dict", data := .dict #[] } else pure none
      ret (← newObj (.ref 610) .plain d)) (fun fin s' => match fin with | .done f => R (.ok f) s' | .again c' => c'.quiet = true ∧ codeAny (model prog w) A c' R s') (fun e s' => R (.error e) s') ⟨h, g, d, t, os⟩ := by
    intro A'
    show wpAny _ _ ((alloc emptyDict >>= fun x => pure (some x)) >>= _) _ _ _
    refine wpAny_bind (wpAny_bind (wpAny_alloc (wpAny_pure (wpAny_bind ?_))))
    show wpAny _ _ (newObjAsIs _ _ _) _ _ _
    unfold newObjAsIs classHasDel
    refine wpAny_bind (wpAny_alloc (wpAny_bind (wpAny_bind (wpAny_load (Heap.get?_push_of_some _ (Heap.get?_push_of_some _ hC)) (wpAny_pure ?_)))))
    rw [e2]
    refine wpAny_pure (wpAny_pure ?_)
    show R _ _
    rw [Heap.size_push]
    exact hq
  repeat (first | simp only [e1, Bool.false_eq_true, if_false] | exact fin _ | lk)
theorem io_newN {w : World} {prog : Program} {A : Around} {E : Value → Shared → Prop} {Q : Value → Shared → Prop} {s : Shared} {h₀ : Heap} {L : Addr} {m : Str → Option Value} {news : Led} (F : Fr h₀ L s.heap m) (X₀ : (K w.params).In h₀) (N : News h₀ L s.heap news)
    (h : ∀ x dx h', Fr h₀ L h' m → News h₀ L h' ((x, instObj 610 dx) :: (dx, dictOf [] 0) :: news) → (∀ p ∈ news, p.1 < dx) → dx < x → Q (.ref x) { s with heap := h' }) :
    wpAny (model prog w) A (call (.builtin "object.__new__") [.ref 610]) Q E s := by
  obtain ⟨hh, g, d, t, os⟩ := s
  refine wpAny_call (io_objNew (X₀.keeps F.keep) ?_)
  have N' := (N.push F emptyDict).push (F.push _) (instObj 610 hh.objs.size)
  rw [Heap.size_push] at N'
  exact h _ hh.objs.size _ ((F.push _).push _) N' (fun p hp => Heap.lt_size (N p hp).1) (Nat.lt_succ_self _)
theorem ioNewK (w : World) (v : Value) (news : Led) : Claim w 6 40 103 news [.ref 610, v] (fun r l => ∃ x dx, r = .ref x ∧ l = (x, instObj 610 dx) :: (dx, dictOf [] 0) :: news ∧ dx < x ∧ ∀ p ∈ news, p.1 < dx) := by
  intro p loose mean mg mb dp un gd cn cs a ccd cl outer A₀ base h₀ L m s Q E B F X N T hk hdp hun hret
  refine wpAny_call ?_
  refine' kp_both ?k1 ?k2 ?k3 ?k4 ?k5 ?kA ?kF ?kK ?k6 ?k7 ?k8 ?kV ?kX ?kQ ?kM ?kN ?kD ?kR ?kP ?kS ?kT ?kB ?_ ?c2 ?c3 ?c4 ?c5
  case kA => exact rfl
  case kF => exact rfl
  case kK => assumption
  case k1 => k_asm
  case k2 => k_asm
  case k3 => k_asm
  case k4 => k_asm
  case k5 => k_asm
  case k6 => k_is
  case k7 => k_is
  case k8 => k_room
  case kV => kp_lit
  case kX => kp_lit
  case kQ => exact rfl
  case kM => exact rfl
  case kN => exact rfl
  case kD => kp_flats
  case kR => exact rfl
  case kP => exact rfl
  case kS => exact fun _ => rfl
  case kT => exact fun _ _ => rfl
  case kB => exact fun _ _ => locs rfl
  case c5 => decide
  case c2 => exact rfl
  case c3 => exact rfl
  case c4 => exact rfl
  intro C' D' o' g' L' h' tk' l1 l2 lo' hs' fs' FG' F' N' B' X' T'
  try dsimp only
  try k_lift B'
  try k_fold
  repeat' (first | (k_unfold; (try dsimp only)) | walk1 | (dsimp only; walk1) | (leave1; (try dsimp only)))
  refine io_newN F' X' N' ?_
  intro x dx h'' F'' N'' l3 l4
  repeat' (first | (k_unfold; (try dsimp only)) | walk1 | (dsimp only; walk1) | (leave1; (try dsimp only)))
  exact hret _ _ _ _ ⟨_, _, rfl, rfl, l4, fun p hp => l3 p (.tail _ (.tail _ hp))⟩ (by assumption) (news_sub (by assumption) fun q hq => by
    rcases List.mem_cons.mp hq with rfl | hq
    · exact .head _
    rcases List.mem_cons.mp hq with rfl | hq
    · exact .tail _ (.head _)
    · exact .tail _ (.tail _ (.tail _ (.tail _ hq))))
theorem ktr_make {dp un : Nat} {gd : Option (List Code)} {cn : Str} {cs : Scope} {L a : Addr} {ccd : Value} {cl : List (Str × Addr)} {outer : List Env} {C : Addr} {rest : List Value} {kw : List (Str × Value)} :
    (ktrTop dp un gd cn cs L a ccd cl outer).under (.builtin "type.__call__" ⟨.ref C :: rest, kw⟩) = ktrTop (dp + 1) (un + 1) gd cn cs L a ccd cl outer := by
  cases gd <;> kernel_rfl
theorem io_init {w : World} : findIn (K w.params) (.ref 610) "__init__" = some (some (.ref 380)) := by k_is
theorem io_initF {w : World} : typeIn (K w.params) (.ref 380) = some (.type "function") := by k_is
theorem io_reads {w : World} : readsIn (K w.params) 610 (.type "type") = true := by k_is
theorem io_typeIn {w : World} : typeIn (K w.params) (.ref 610) = some (.type "type") := by k_is
theorem io_find {w : World} : findCls (K w.params) (.ref 610) (.type "type") "__new__" = some (.get (.builtin "staticmethod.__get__") (.ref 107) .none (.ref 610)) := by kernel_rfl
theorem io_rec {w : World} : recIn (K w.params) 107 "staticmethod" = some [.ref 103] := by kernel_rfl
theorem strioK (w : World) (text : Str) (t : Tok) (news : Led) : Claim w 12 60 610 news [.str text t]
    (fun v l => ∃ x dx k0 k1 k2 t0 t1 tp, v = .ref x ∧ l = (x, instObj 610 dx) :: (dx, dictOf (ioEs w k0 k1 k2 t0 t1 "\n" text (.int 0 tp)) 3) :: news ∧ dx < x ∧ ∀ p ∈ news, p.1 < dx) := by
  intro p loose mean mg mb dp un gd cn cs a ccd cl outer A₀ base h₀ L m s Q E B F X N T hk hdp hun hret
  have X₁ := X.keeps F.keep
  obtain ⟨oc, od, cd, sl, hC, e1, e2, e4⟩ := io_cls X₁
  refine wpAny_call ?_
  refine codeAny_of_tree ?_
  show wpAny _ _ (callAny (.ref 610) _) _ _ _
  refine nd_load hC ?_
  show wpAny _ _ (callAny.viaDunder (.ref 610) _) _ _ _
  unfold callAny.viaDunder
  refine wpAny_bind ((io_calls X₁).here ?_)
  dsimp only
  rw [tc_bind]
  refine wpAny_bind (wpAny_pure (wpAny_bind (wpAny_pure ?_)))
  refine wpAny_pure (a := Fin.again (.call (.builtin "type.__call__") ⟨.ref 610 :: [.str text t], []⟩)) (And.intro rfl ?_)
  refine codeAny_call_builtin_at (Code.quiet_builtin _ (by decide +kernel)) entry_typeCall (check_slot tc_kind tc_split (io_typ X₁) (tc_args _ _ _) ?_)
  unfold Builtin.«type.__call__»
  rw [ktr_make]
  have hm : Looks (model PySem.Challenge.pw_oc0295_01 w) s.heap (mroOf (.ref 610)) cd.mro := ((Looks.ld (part := none) hC).andThen .now).andThen .now
  dsimp only
  refine wpAny_bind (hm.here ?_)
  rw [e4]
  refine wpAny_bind ((io_made X₁).here ?_)

  refine wpAny_bind (cls_sm (s := s) F X io_typeIn io_reads io_find io_rec rfl ?_)
  refine wpAny_bind (wpAny_holding ?_)
  refine (ioNewK w (.str text t) news).use (s := { s with toks := s.toks + 1 }) B F X N T hk (by omega) (by omega) ?_
  intro v l h' tk' hR F' N'
  obtain ⟨x, dx, rfl, rfl, hlt, hnew⟩ := hR
  have I' := InstAt.of_news N' (.head _) (.tail _ (.head _))
  have X' := X.keeps F'.keep
  refine wpAny_bind (wpAny_bind (I'.type.here ((io_self X').here ?_)))
  dsimp only
  refine wpAny_bind (wpAny_holding (special_fn (f := 380) X' I' io_init io_initF ?_))
  refine (ioInitK w text t x dx news (Nat.ne_of_gt hlt) (fun p hp => Nat.ne_of_lt (hnew p hp))).use B F' X N' T hk (by omega) (by omega) ?_
  intro v l h'' tk'' hR F'' N''
  obtain ⟨rfl, k0, k1, k2, t0, t1, tp, rfl⟩ := hR
  exact wpAny_pure (hret _ _ _ _ ⟨x, dx, k0, k1, k2, t0, t1, tp, rfl, rfl, hlt, hnew⟩ F'' N'')
end

end
section

/-! ## shlex.__init__ -/
def nthT : List Tok → Nat → Tok
  | [], _ => 0
  | a :: _, 0 => a
  | _ :: r, n + 1 => nthT r n
def wcS : Str := Str.ofString "abcdfeghijklmnopqrstuvwxyzABCDEFGHIJKLMNOPQRSTUVWXYZ0123456789_" ++ Str.ofString "ßàáâãäåæçèéêëìíîïðñòóôõöøùúûüýþÿÀÁÂÃÄÅÆÇÈÉÊËÌÍÎÏÐÑÒÓÔÕÖØÙÚÛÜÝÞ"
@[reducible] def iniEs (w : World) (k t : Nat → Tok) (io pb fs : Nat) (wc : Str) (vst vtok : Value) : List DictEntry :=
  [ent w "instream" (k 0) (.ref io), ent w "infile" (k 1) .none, ent w "posix" (k 2) (.bool true), ent w "eof" (k 3) .none, ent w "commenters" (k 4) (.str "#" (t 4)),
   ent w "wordchars" (k 5) (.str wc (t 5)), ent w "whitespace" (k 6) (.str " \t\r\n" (t 6)), ent w "whitespace_split" (k 7) (.bool false), ent w "quotes" (k 8) (.str "'\"" (t 8)), ent w "escape" (k 9) (.str "\\" (t 9)),
   ent w "escapedquotes" (k 10) (.str "\"" (t 10)), ent w "state" (k 11) vst, ent w "pushback" (k 12) (.ref pb), ent w "lineno" (k 13) (.int 1 (t 13)), ent w "debug" (k 14) (.int 0 (t 14)),
   ent w "token" (k 15) vtok, ent w "filestack" (k 16) (.ref fs), ent w "source" (k 17) .none, ent w "_punctuation_chars" (k 18) (.str "" (t 18))]
@[reducible] def iniLed (w : World) (k t : Nat → Tok) (x dx io dio pb fs : Nat) (wc text : Str) (vst vtok vp : Value) (rest : Led) : Led :=
  (fs, deq) :: (pb, deq) :: (io, instObj 610 dio) :: (dio, dictOf (ioEs w (k 20) (k 21) (k 22) (t 20) (t 21) "\n" text vp) 3) :: (x, instObj 745 dx) :: (dx, dictOf (iniEs w k t io pb fs wc vst vtok) 19) :: rest
section
theorem shlexInit (w : World) (text : Str) (t : Tok) (x dx : Nat) (news : Led) (h1 : dx < x) (h2 : ∀ p ∈ news, p.1 < dx)
    {p : Program} {loose : List Str} {mean : ExcName → Option Value} {mg mb : Str → Option Value} {dp un : Nat} {gd : Option (List Code)} {cn : Str} {cs : Scope} {a : Addr} {ccd : Value} {cl : List (Str × Addr)} {outer : List Env}
    {A₀ : Around} {base h₀ : Heap} {L : Addr} {m : Str → Option Value} {s : Shared} {R : Result → Shared → Prop}
    (B : Below A₀ base outer h₀) (F : Fr h₀ L s.heap m) (X : (K w.params).In h₀) (N : News h₀ L s.heap ((x, instObj 745 dx) :: (dx, dictOf [] 0) :: news)) (T : Top p loose mean mg mb h₀) (hk : cs.kind = .function) (hdp : dp + 30 < recursionLimit) (hun : un + 100 < cLine)
    (hret : ∀ (h' : Heap) (tk' : Nat) (io dio pb fs : Nat) (k0 k1 k2 k3 k4 k5 k6 k7 k8 k9 k10 k11 k12 k13 k14 k15 k16 k17 k18 k20 k21 k22 t4 t5 t6 t8 t9 t10 t13 t14 t18 t20 t21 tst ttok tp : Tok), Fr h₀ L h' m →
      News h₀ L h' (iniLed w (nthT [k0, k1, k2, k3, k4, k5, k6, k7, k8, k9, k10, k11, k12, k13, k14, k15, k16, k17, k18, 0, k20, k21, k22]) (nthT [0, 0, 0, 0, t4, t5, t6, 0, t8, t9, t10, 0, 0, t13, t14, 0, 0, 0, t18, 0, t20, t21]) x dx io dio pb fs wcS text (.str " " tst) (.str "" ttok) (.int 0 tp) news) → x < dio → dio < io → io < pb → pb < fs → R (.ok (.ret .none)) { s with heap := h', toks := tk' }) :
    codeAny (model PySem.Challenge.pw_oc0295_01 w) (ktrTop dp un gd cn cs L a ccd cl outer) (.call (.ref 669) ⟨[.ref x, .str text t], [("posix", .bool true)]⟩) R s := by
  have h3 : ∀ p ∈ news, p.1 ≠ dx := fun p hp => Nat.ne_of_lt (h2 p hp)
  k_enter
  repeat' (first | (k_here; k_dflt (refine' dequeK ?F ?N ?_; (case F => k_asm); (case N => k_asm)); intro d' h' F' N' hd'; (have q1' := hd' _ (.head _)); (have q2' := hd' _ (.tail _ (.head _))); (have q3' := hd' _ (.tail _ (.tail _ (.head _)))); (have q4' := hd' _ (.tail _ (.tail _ (.tail _ (.head _))))); dsimp only at q1' q2' q3' q4'; k_lt2 q1'; k_lt2 q2'; k_lt2 q3'; k_lt2 q4'; (try (have q5' := hd' _ (.tail _ (.tail _ (.tail _ (.tail _ (.head _))))); dsimp only at q5'; k_lt2 q5')); clear hd'; (try k_sweep)) | (k_here; (with_reducible show wpAny _ _ (call (Value.ref 610) _) _ _ _); k_dflt (refine' (strioK _ _ _ _).use ?k1 ?k2 ?k3 ?k4 ?k5 ?k6 ?k7 ?k8 ?_; (case k1 => k_asm); (case k2 => k_asm); (case k3 => k_asm); (case k4 => k_asm); (case k5 => k_asm); (case k6 => first | exact rfl | assumption); (case k7 => k_room); (case k8 => (try dsimp only); omega)); intro v' l' h' tk' hR' F' N'; obtain ⟨io', dio', k0', k1', k2', t0', t1', tp', e1', e2', hlt', hnew'⟩ := hR'; subst e1'; rw [e2'] at N'; clear e2'; (have q1' := hnew' _ (.head _)); (have q2' := hnew' _ (.tail _ (.head _))); dsimp only at q1' q2'; k_lt2 q1'; k_lt2 q2'; k_lt2 hlt'; (try k_sweep)) | (k_unfold; (try dsimp only)) | walk1 | (dsimp only; walk1) | (leave1; (try dsimp only)))
  rename Fr h₀ L _ m => Fz
  rename News h₀ L _ ((_, deq) :: _) => Nz
  refine hret _ _ _ _ _ _ _ _ _ _ _ _ _ _ _ _ _ _ _ _ _ _ _ _ _ _ _ _ _ _ _ _ _ _ _ _ _ _ _ _ _ _ Fz Nz ?_ ?_ ?_ ?_ <;> omega
end

end
section

/-! ## split: entered from a frame that has none below it (a StopIteration falls within it and is caught there) -/
section
variable {prog : Program} {w : World} {A A₀ : Around} {s : Shared} {base h₀ : Heap} {env : Env} {L : Addr} {m : Str → Option Value} {news : Led} {K : Frag} {p : Program} {loose : List Str} {mean : ExcName → Option Value} {mg mb : Str → Option Value}
    {R : Result → Shared → Prop} {name qual : Str} {params : Arguments} {body : List Stmt} {scope : Scope} {dV kV doc pm cdv ct oc : Value} {an od : Option Addr} {osl : Array (Option Value)} {f : Addr} {args : Args} {binds : List (Str × Value)}
theorem code_defX0 (B : Below A₀ base [] h₀) (F : Fr h₀ L s.heap m) (X₀ : K.In h₀) (N : News h₀ L s.heap news) (T : Top p loose mean mg mb h₀) (hA : A.frames = some [env]) (hf : env.frame = some L) (hke : env.scope.kind = .function)
    (ho : K.lookup f = some ⟨oc, od, .func (fnOf name qual params body scope dV kV doc pm an cdv ct), osl⟩) (hcd : codeIn K cdv qual = true) (hroom : A.depth < recursionLimit)
    (hbind : BindsTo s (fnOf name qual params body scope dV kV doc pm an cdv ct) args binds) (hloc : ∀ y ∈ binds, scope.names.lookup y.1 = some .local)
    (h : ∀ g L' h₁, Fr h₀ L g m → Fr g L' h₁ (fun y => binds.reverse.lookup y) → News g L' h₁ news → Below A base [env] g → K.In g → Top p loose mean mg mb g →
      wpAny (model prog w) (A.deeper (envOf qual scope L' f cdv)) (execs body (envOf qual scope L' f cdv))
        (fun fl s' => LeaveS0 ([env].filterMap (·.frame)) h₀ L m g R (match fl with | .ret v => v | _ => .none) s')
        (fun e s' => wpAny (model prog w) (A.deeper (envOf qual scope L' f cdv)) (leaving (envOf qual scope L' f cdv) e) (fun _ s'' => R (.error e) s'') (fun e' s'' => R (.error e') s'') s')
        { s with heap := h₁, toks := s.toks + binds.length })
    (hco : scope.isCoroutine = false) (hgen : scope.isGenerator = false) (hk : scope.kind = .function)
    (hcell : ∀ x ∈ scope.names, x.2 ≠ .cell) : codeAny (model prog w) A (.call (.ref f) args) R s := by
  have X := X₀.keeps F.keep
  obtain ⟨FG, BG, st, _⟩ := groundX (R := R) B F N hA hf hke
  refine codeAny_call_def (fd := fnOf name qual params body scope dV kV doc pm an cdv ct) (body := body) (binds := binds) hroom (X _ _ ho) rfl (T.nolimit.keeps F.keep) (codeRec_of X hcd) rfl hbind hcell hloc (fun h₁ hns hk₁ => ?_) hco hgen hk
  refine wpAny_mono (h _ s.heap.objs.size h₁ FG ⟨hns, fun b o e => hk₁ b o (of_hideAll _ e), Nat.le_of_eq (hideAll_size _ _)⟩
    (fun p hp => ⟨hk₁ _ _ (N p hp).1, Nat.ne_of_lt (Heap.lt_size (N p hp).1), hideAll_none _ (List.mem_map_of_mem hp)⟩) BG (X₀.keeps st) (T.keeps st)) (fun fl s' hl => ?_) fun _ _ y => y
  obtain ⟨g', L', m', news', T', F', N', k⟩ := hl
  have hmem : ∀ b, b ∈ [env].filterMap (·.frame) → b = L := fun b hb => by
    rw [List.filterMap_cons, hf] at hb
    simpa using hb
  have nL₀ : h₀.get? L = none := kts_self F
  obtain ⟨oL, es, ep, hLg, hLd, hLk, hLf⟩ := FG.ns
  obtain ⟨sl, hs⟩ := T'.up hLg
  refine k ⟨⟨_, es, ep, F'.keep _ _ hs, hLd, hLk, hLf⟩, fun b o e => F'.keep b o (T'.other b o (st b o e) (fun q => by
    rw [hmem b q, nL₀] at e
    cases e)), F.above⟩ fun p hp => ⟨(N' p hp).1, fun q => ?_, ?_⟩
  · have := (N' p hp).2.2; rw [q, hs] at this; cases this
  · cases q : h₀.get? p.1 with
    | none => rfl
    | some o =>
      obtain ⟨sl', hs'⟩ := T'.up (st _ _ q)
      have := (N' p hp).2.2
      rw [hs'] at this
      cases this
end
theorem under_make {A : Around} {C : Addr} {rest : List Value} {kw : List (Str × Value)} : A.under (.builtin "type.__call__" ⟨.ref C :: rest, kw⟩) = { A with depth := A.depth + 1, units := A.units + 1 } := by
  obtain ⟨a, b, c, gd, e⟩ := A
  cases c <;> cases gd <;> kernel_rfl
theorem wcS_39 : inS wcS (one 39) = false := by decide +kernel
def put4 (c : Tok) (f : Nat → Tok) (i : Nat) : Tok := bif i == 4 then c else f i
theorem lexPerm {w : World} {k t : Nat → Tok} {x dx io dio pb fs : Nat} {wc text : Str} {vst vtok vp : Value} {rest : Led} {h₀ h : Heap} {L : Addr}
    (N : News h₀ L h ((fs, deq) :: (pb, deq) :: (io, instObj 610 dio) :: (dio, dictOf (ioEs w (k 20) (k 21) (k 22) (t 20) (t 21) "\n" text vp) 3) :: (x, instObj 745 dx) :: (dx, dictOf (lexEs w k t io pb fs wc vst vtok) 19) :: rest)) :
    News h₀ L h (lexLed w k t x dx io dio pb fs wc text vst vtok vp rest) := by
  refine news_sub N fun q hq => ?_
  simp only [lexLed, List.mem_cons] at hq ⊢
  rcases hq with h | h | h | h | h | h | h <;> simp only [h, true_or, or_true]
theorem deeper_units {A : Around} {env : Env} : (A.deeper env).units = A.units + 3 := rfl
section
theorem splitK (w : World) (text : Str) (t : Tok) (news : Led) (ws : List (List Nat)) (hl : text.length < 1000) (hw : LexAll text.cps.toList ws) (hz : ws.length < 90)
    {p : Program} {loose : List Str} {mean : ExcName → Option Value} {mg mb : Str → Option Value} {dp un : Nat} {gd : Option (List Code)} {cn : Str} {cs : Scope} {a : Addr} {ccd : Value} {cl : List (Str × Addr)}
    {A₀ : Around} {base h₀ : Heap} {L : Addr} {m : Str → Option Value} {s : Shared} {Q E : Value → Shared → Prop}
    (B : Below A₀ base [] h₀) (F : Fr h₀ L s.heap m) (X : (K w.params).In h₀) (N : News h₀ L s.heap news) (T : Top p loose mean mg mb h₀) (hk : cs.kind = .function) (hdp : dp + 40 < recursionLimit) (hun : un + 200 < cLine)
    (hret : ∀ (S : Addr) (vs : List Value) (c' : Nat) (h' : Heap) (tk' : Nat), StrVs ws vs → Fr h₀ L h' m → News h₀ L h' ((S, lstO ⟨vs⟩ c') :: news) → Q (.ref S) { s with heap := h', toks := tk' }) :
    wpAny (model PySem.Challenge.pw_oc0295_01 w) (ktrTop dp un gd cn cs L a ccd cl []) (call (.ref 757) [.str text t]) Q E s := by
  refine wpAny_call ?_
  refine' code_defX0 ?k1 ?k2 ?k3 ?k4 ?k5 ?kA ?kF ?kK ?k6 ?k7 ?k8 ?k9 ?kB ?_ ?c2 ?c3 ?c4 ?c5; (case kA => exact rfl); (case kF => exact rfl); (case kK => first | exact rfl | assumption); (case k1 => k_asm); (case k2 => k_asm); (case k3 => k_asm); (case k4 => k_asm); (case k5 => k_asm); (case k6 => k_is); (case k7 => k_is); (case k8 => k_room); (case k9 => first | exact BindsTo.of_eq rfl | exact binds_K (by k_in) rfl (by k_is) rfl rfl rfl | fail "k_enter: no rule for these arguments"); (case c5 => decide); (case kB => exact locs rfl); (case c2 => exact rfl); (case c3 => exact rfl); (case c4 => exact rfl)
  intro g' L' h' FG' F' N' B' X' T'
  try dsimp only
  try k_lift B'
  try k_fold
  iterate 22 (first | (k_unfold; (try dsimp only)) | walk1 | (dsimp only; walk1) | (leave1; (try dsimp only)))
  with_reducible show wpAny _ _ (call (Value.ref 745) _ _) _ _ _
  k_dflt (refine' call_cls ?k1 ?k2 ?k3 ?k4 ?k5 ?k6 ?_; (case k1 => k_asm); (case k2 => k_asm); (case k3 => k_asm); (case k4 => k_is); (case k5 => k_is); (case k6 => k_is))
  intro x' d' h' F' N' l1 l2
  rw [under_make]
  k_dflt (refine' shlexInit _ _ _ x' d' _ l2 l1 ?k1 ?k2 ?k3 ?k4 ?k5 ?k6 ?k7 ?k8 ?_; (case k1 => k_asm); (case k2 => k_asm); (case k3 => k_asm); (case k4 => k_asm); (case k5 => k_asm); (case k6 => first | exact rfl | assumption); (case k7 => k_room); (case k8 => (simp only [Mine.deeper_units]; omega)))
  intro h2' tk2' io' dio' pb' fs' k0' k1' k2' k3' k4' k5' k6' k7' k8' k9' k10' k11' k12' k13' k14' k15' k16' k17' k18' k20' k21' k22' t4' t5' t6' t8' t9' t10' t13' t14' t18' t20' t21' tst' ttok' tp' F2' N2' o1' o2' o3' o4'
  refine And.intro rfl ?_
  dsimp only
  k_sweep
  have h3 : ∀ p ∈ news, p.1 ≠ d' := fun p hp => Nat.ne_of_lt (l1 p hp)
  k_lt2 l2
  repeat' (first | (k_unfold; (try dsimp only)) | walk1 | (dsimp only; walk1) | (leave1; (try dsimp only)))
  rename Fr g' L' _ _ => Fz
  rename News g' L' _ _ => Nz
  have Ny := lexPerm (k := nthT [k0', k1', k2', k3', k4', k5', k6', k7', k8', k9', k10', k11', k12', k13', k14', k15', k16', k17', k18', 0, k20', k21', k22']) (t := put4 _ (nthT [0, 0, 0, 0, t4', t5', t6', 0, t8', t9', t10', 0, 0, t13', t14', 0, 0, 0, t18', 0, t20', t21']))
    (x := x') (dx := d') (io := io') (dio := dio') (pb := pb') (fs := fs') (wc := wcS) (text := text) (rest := news) (vst := .str " " tst') (vtok := .str "" ttok') (vp := .int 0 tp') Nz
  refine listLex B' Fz X' T' rfl (by simp only [depth_deeper]; omega) (by simp only [Mine.deeper_units]; omega) ⟨by omega, by omega, by omega, by omega, by omega, by omega, by omega, by omega, by omega, h3, fun p hp => by have := ltN (l1 p hp); exact neN (by omega)⟩ hl wcS_39 hw hz rfl Ny ?_
  intro g'' h'' tk'' S vs c' hvs hT F'' N''
  refine leaveS0_ F'' N'' hT ?_
  intro Fy Ny
  exact hret S vs c' _ _ hvs Fy Ny
end

end
section

/-! ## _law_clock, _law_spelled -/
theorem strL_cat (a b : List Nat) : strL a ++ strL b = strL (a ++ b) := by
  show (⟨a.toArray ++ b.toArray⟩ : Str) = ⟨(a ++ b).toArray⟩
  simp
theorem dig_text {d : Nat} (h : d < 8) : Str.ofString (toString (d : Int)) = strL [48 + d] := by
  have : d = 0 ∨ d = 1 ∨ d = 2 ∨ d = 3 ∨ d = 4 ∨ d = 5 ∨ d = 6 ∨ d = 7 := by omega
  rcases this with rfl | rfl | rfl | rfl | rfl | rfl | rfl | rfl <;> decide +kernel
/-- a clock's signs: by its four figures and its look -/
def clkL (d0 d1 d2 d3 : Nat) : Nat → List Nat
  | 0 => [48 + d0, 48 + d1, 48 + d2, 48 + d3]
  | 1 => [43, 48 + d0, 48 + d1, 48 + d2, 48 + d3]
  | 2 => [48 + d0, 48 + d1, 58, 48 + d2, 48 + d3]
  | _ => [45, 48 + d0, 48 + d1, 48 + d2, 48 + d3]
structure Figs (r : Int) (d0 d1 d2 d3 : Nat) : Prop where
  h0 : d0 < 8
  h1 : d1 < 8
  h2 : d2 < 8
  h3 : d3 < 8
  eq : r = 512 * d0 + 64 * d1 + 8 * d2 + d3
theorem Figs.a {r : Int} {d0 d1 d2 d3 : Nat} (h : Figs r d0 d1 d2 d3) : r.fdiv 512 = (d0 : Int) := by
  obtain ⟨h0, h1, h2, h3, rfl⟩ := h
  rw [Int.fdiv_eq_ediv_of_nonneg _ (by omega)]; omega
theorem Figs.b {r : Int} {d0 d1 d2 d3 : Nat} (h : Figs r d0 d1 d2 d3) : (r.fdiv 64).fmod 8 = (d1 : Int) := by
  obtain ⟨h0, h1, h2, h3, rfl⟩ := h
  rw [Int.fdiv_eq_ediv_of_nonneg _ (by omega), Int.fmod_eq_emod_of_nonneg _ (by omega)]; omega
theorem Figs.c {r : Int} {d0 d1 d2 d3 : Nat} (h : Figs r d0 d1 d2 d3) : (r.fdiv 8).fmod 8 = (d2 : Int) := by
  obtain ⟨h0, h1, h2, h3, rfl⟩ := h
  rw [Int.fdiv_eq_ediv_of_nonneg _ (by omega), Int.fmod_eq_emod_of_nonneg _ (by omega)]; omega
theorem Figs.d {r : Int} {d0 d1 d2 d3 : Nat} (h : Figs r d0 d1 d2 d3) : r.fmod 8 = (d3 : Int) := by
  obtain ⟨h0, h1, h2, h3, rfl⟩ := h
  rw [Int.fmod_eq_emod_of_nonneg _ (by omega)]; omega
theorem e_lit : Str.ofString "" = strL [] := by decide +kernel
theorem plus_lit : Str.ofString "+" = strL [43] := by decide +kernel
theorem minus_lit : Str.ofString "-" = strL [45] := by decide +kernel
theorem colon_lit : Str.ofString ":" = strL [58] := by decide +kernel
theorem ite_bT {c : Bool} {P Q : Prop} (h : c = true) (p : P) : if c = true then P else Q := by rw [if_pos h]; exact p
theorem ite_bF {c : Bool} {P Q : Prop} (h : c = false) (q : Q) : if c = true then P else Q := by rw [if_neg (by rw [h]; decide)]; exact q
example {M : Model} {A : Around} {E : Value → Shared → Prop} {s : Shared} {env : Env} {Q : Flow → Shared → Prop} (h : Q .next s) : wpAny M A (execs [] env) Q E s := by
  walk1
  exact h
section
local macro_rules | `(tactic| walk_at "ite") => `(tactic| first | refine ite_bT (by decide) ?_ | refine ite_bF (by decide) ?_)
theorem clockK (w : World) (r look : Int) (d0 d1 d2 d3 : Nat) (hf : Figs r d0 d1 d2 d3) (t1 t2 : Tok) (news : Led) (h3 : look = 0 ∨ look = 1 ∨ look = 2 ∨ look = 3) :
    Claim w 4 40 826 news [.int r t1, .int look t2] (fun v l => (∃ t, v = .str (strL (clkL d0 d1 d2 d3 look.toNat)) t) ∧ l = news) := by
  have g1 : 0 ≤ r := by have := hf.eq; omega
  have g2 : r < 4096 := by have := hf.eq; have := hf.h0; have := hf.h1; have := hf.h2; have := hf.h3; omega
  have a1 := hf.a
  have a2 := hf.b
  have a3 := hf.c
  have a4 := hf.d
  have b0 := dig_text hf.h0
  have b1 := dig_text hf.h1
  have b2 := dig_text hf.h2
  have b3 := dig_text hf.h3
  intro p loose mean mg mb dp un gd cn cs a ccd cl outer A₀ base h₀ L m s Q E B F X N T hk hdp hun hret
  refine wpAny_call ?_
  k_enter
  repeat ((fail_if_success (with_reducible show wpAny _ _ (exec (Stmt.If _ _ _ _) _) _ _ _)); (first | (k_unfold; (try dsimp only)) | walk1 | (dsimp only; walk1) | (leave1; (try dsimp only))))
  rcases h3 with rfl | rfl | rfl | rfl
  all_goals repeat' (first | (k_unfold; (try dsimp only)) | walk1 | (dsimp only; walk1) | (leave1; (try dsimp only)))
  all_goals rw [a1, a2, a3, a4, b0, b1, b2, b3]
  all_goals simp only [e_lit, plus_lit, minus_lit, colon_lit, strL_cat]
  all_goals first
    | exact hret _ _ _ _ ⟨⟨_, rfl⟩, rfl⟩ (by assumption) (news_tl (by assumption))
    | exact hret _ _ _ _ ⟨⟨_, rfl⟩, rfl⟩ (by assumption) (by assumption)
end

end
section

/-! ## _law_spelled -/
def spL (x : List Nat) : Nat → List Nat
  | 0 => x
  | 1 => [39] ++ x ++ [39]
  | 2 => [92] ++ x
  | _ => x.take 2 ++ [34] ++ x.drop 2 ++ [34]
theorem strL_cps (l : List Nat) : (strL l).cps.toList = l := by simp [strL]
theorem slice_to2 {x : List Nat} (h : 2 ≤ x.length) : Txt.slice (strL x) none (some 2) = strL (x.take 2) := by
  have e : Txt.slice (strL x) none (some 2) = StrLaws.sliceText (strL x) none (some 2) := rfl
  rw [e, StrLaws.sliceText_to (by rw [strL_cps]; omega), strL_cps]
  rfl
theorem slice_from2 {x : List Nat} (h : 2 ≤ x.length) : Txt.slice (strL x) (some 2) none = strL (x.drop 2) := by
  have e : Txt.slice (strL x) (some 2) none = StrLaws.sliceText (strL x) (some 2) none := rfl
  rw [e, StrLaws.sliceText_from (by rw [strL_cps]; omega), strL_cps]
  show (⟨_⟩ : Str) = ⟨_⟩
  congr 2
  rw [List.take_of_length_le]
  · rfl
  · simp; omega
theorem q_lit : Str.ofString "'" = strL [39] := by decide +kernel
theorem bs_lit : Str.ofString "\\" = strL [92] := by decide +kernel
theorem dq_lit : Str.ofString "\"" = strL [34] := by decide +kernel
example {M : Model} {A : Around} {E : Value → Shared → Prop} {s : Shared} {env : Env} {Q : Flow → Shared → Prop} (h : Q .next s) : wpAny M A (execs [] env) Q E s := by
  walk1
  exact h
section
local macro_rules | `(tactic| walk_at "ite") => `(tactic| first | refine ite_bT (by decide) ?_ | refine ite_bF (by decide) ?_)
theorem spelledK (w : World) (x : List Nat) (way : Int) (hx : 2 ≤ x.length) (hx2 : x.length < 10) (t1 t2 : Tok) (news : Led) (h3 : way = 0 ∨ way = 1 ∨ way = 2 ∨ way = 3) :
    Claim w 4 40 833 news [.str (strL x) t1, .int way t2] (fun v l => (∃ t, v = .str (strL (spL x way.toNat)) t) ∧ l = news) := by
  have hl : (strL x).length < 10 := by rw [strL_len]; exact hx2
  have a1 := slice_to2 hx
  have a2 := slice_from2 hx
  intro p loose mean mg mb dp un gd cn cs a ccd cl outer A₀ base h₀ L m s Q E B F X N T hk hdp hun hret
  refine wpAny_call ?_
  rcases h3 with rfl | rfl | rfl | rfl
  all_goals k_enter
  all_goals repeat' (first | (k_unfold; (try dsimp only)) | walk1 | (dsimp only; walk1) | (leave1; (try dsimp only)))
  all_goals try rw [a1, a2]
  all_goals try simp only [q_lit, bs_lit, dq_lit, strL_cat]
  all_goals exact hret _ _ _ _ ⟨⟨_, rfl⟩, rfl⟩ (by assumption) (by assumption)
end

end
section

/-! ## the line's words -/
theorem clk_no {c : Nat} (h : clk c = true) : c ≠ 92 ∧ c ≠ 39 ∧ c ≠ 34 ∧ c ≠ 32 := by
  rcases clk_cases h with rfl | rfl | rfl | rfl | rfl | rfl | rfl | rfl | rfl | rfl | rfl | rfl | rfl <;> decide
theorem go_a : ∀ (l tok r : List Nat), (∀ c ∈ l, clk c = true) → lexGo (l ++ r) .a tok = lexGo r .a (tok ++ l)
  | [], tok, r, _ => by simp
  | c :: l, tok, r, h => by
    have hc := h c (.head _)
    have hn := clk_no hc
    rw [List.cons_append, lexGo, if_neg hn.2.2.2, if_neg hn.2.2.1, if_pos hc, go_a l _ r fun d hd => h d (.tail _ hd), List.append_assoc]
    rfl
theorem go_sq : ∀ (l tok r : List Nat), (∀ c ∈ l, clk c = true) → lexGo (l ++ r) .sq tok = lexGo r .sq (tok ++ l)
  | [], tok, r, _ => by simp
  | c :: l, tok, r, h => by
    have hc := h c (.head _)
    have hn := clk_no hc
    rw [List.cons_append, lexGo, if_neg hn.2.1, if_pos hc, go_sq l _ r fun d hd => h d (.tail _ hd), List.append_assoc]
    rfl
theorem go_dq : ∀ (l tok r : List Nat), (∀ c ∈ l, clk c = true) → lexGo (l ++ r) .dq tok = lexGo r .dq (tok ++ l)
  | [], tok, r, _ => by simp
  | c :: l, tok, r, h => by
    have hc := h c (.head _)
    have hn := clk_no hc
    rw [List.cons_append, lexGo, if_neg hn.2.2.1, if_pos hc, go_dq l _ r fun d hd => h d (.tail _ hd), List.append_assoc]
    rfl
theorem go_word {x : List Nat} (hx : ∀ c ∈ x, clk c = true) (hl : 2 ≤ x.length) (way : Nat) (r : List Nat) : lexGo (spL x way ++ r) .sp [] = lexGo r .a x := by
  obtain ⟨c, d, l, rfl⟩ : ∃ c d l, x = c :: d :: l := by
    match x, hl with
    | c :: d :: l, _ => exact ⟨c, d, l, rfl⟩
  have hc := hx c (.head _)
  have hd := hx d (.tail _ (.head _))
  have hn := clk_no hc
  have hn2 := clk_no hd
  have hr : ∀ e ∈ l, clk e = true := fun e he => hx e (.tail _ (.tail _ he))
  have hr2 : ∀ e ∈ d :: l, clk e = true := fun e he => hx e (.tail _ he)
  match way with
  | 0 =>
    show lexGo (c :: ((d :: l) ++ r)) .sp [] = _
    rw [lexGo, if_neg hn.1, if_neg hn.2.1, if_pos hc, go_a _ _ _ hr2]
    rfl
  | 1 =>
    show lexGo (39 :: ((c :: d :: l ++ [39]) ++ r)) .sp [] = _
    rw [lexGo, if_neg (by decide), if_pos rfl, List.append_assoc, go_sq _ _ _ hx]
    show lexGo (39 :: r) .sq (c :: d :: l) = _
    rw [lexGo, if_pos rfl, if_neg (by simp)]
  | 2 =>
    show lexGo (92 :: c :: ((d :: l) ++ r)) .sp [] = _
    rw [lexGo, if_pos rfl, lexGo, if_pos hc, go_a _ _ _ hr2]
    rfl
  | n + 3 =>
    show lexGo (c :: d :: 34 :: (l ++ [34] ++ r)) .sp [] = _
    rw [lexGo, if_neg hn.1, if_neg hn.2.1, if_pos hc, lexGo, if_neg hn2.2.2.2, if_neg hn2.2.2.1, if_pos hd, lexGo, if_neg (by decide), if_pos rfl, List.append_assoc, go_dq _ _ _ hr]
    show lexGo (34 :: r) .dq (c :: d :: l) = _
    rw [lexGo, if_pos rfl, if_neg (by simp)]
def joinL : List (List Nat) → List Nat
  | [] => []
  | [a] => a
  | a :: b :: r => a ++ 32 :: joinL (b :: r)
theorem strL_ne {x : List Nat} (h : x ≠ []) : (strL x == Str.ofString "") = false := by
  rw [beq_eq_false_iff_ne, e_lit]
  intro e
  have := congrArg (fun s : Str => s.cps.toList) e
  rw [strL_cps, strL_cps] at this
  exact h this
theorem lexAll_line : ∀ (l : List (List Nat × Nat)), l ≠ [] → (∀ p ∈ l, (∀ c ∈ p.1, clk c = true) ∧ 2 ≤ p.1.length) → LexAll (joinL (l.map fun p => spL p.1 p.2)) (l.map (·.1))
  | [], h, _ => absurd rfl h
  | [p], _, h => by
    have hp := h p (.head _)
    have hne : p.1 ≠ [] := fun e => by have := hp.2; rw [e] at this; cases this
    refine LexAll.last ?_ (strL_ne hne)
    have := go_word hp.1 hp.2 p.2 []
    rw [List.append_nil] at this
    show lexGo (spL p.1 p.2) .sp [] = _
    rw [this, lexGo, if_neg hne]
  | p :: q :: r, _, h => by
    have hp := h p (.head _)
    have hne : p.1 ≠ [] := fun e => by have := hp.2; rw [e] at this; cases this
    refine LexAll.more (rem' := joinL ((q :: r).map fun p => spL p.1 p.2)) ?_ (strL_ne hne) (lexAll_line (q :: r) (by simp) fun x hx => h x (.tail _ hx))
    show lexGo (spL p.1 p.2 ++ 32 :: joinL _) .sp [] = _
    rw [go_word hp.1 hp.2 p.2, lexGo, if_pos rfl, if_neg hne]
    rfl
theorem clkL_clk {d0 d1 d2 d3 look : Nat} (h0 : d0 < 8) (h1 : d1 < 8) (h2 : d2 < 8) (h3 : d3 < 8) : (∀ c ∈ clkL d0 d1 d2 d3 look, clk c = true) ∧ 4 ≤ (clkL d0 d1 d2 d3 look).length ∧ (clkL d0 d1 d2 d3 look).length ≤ 5 := by
  have hd : ∀ d, d < 8 → clk (48 + d) = true := fun d h => by
    simp only [clk, Bool.or_eq_true, Bool.and_eq_true, decide_eq_true_eq]; omega
  have a := hd d0 h0
  have b := hd d1 h1
  have c := hd d2 h2
  have d := hd d3 h3
  match look with
  | 0 => exact ⟨by simp [clkL, a, b, c, d], by simp [clkL], by simp [clkL]⟩
  | 1 => exact ⟨by simp [clkL, a, b, c, d]; decide, by simp [clkL], by simp [clkL]⟩
  | 2 => exact ⟨by simp [clkL, a, b, c, d]; decide, by simp [clkL], by simp [clkL]⟩
  | n + 3 => exact ⟨by simp [clkL, a, b, c, d]; decide, by simp [clkL], by simp [clkL]⟩

end
section


/-! ## the machine of _sre: a text's signs matter by their kind alone -/
open PySem.Sre (M ops accepts)
def eqAcc : Except String (Bool × Sre.Seen) → Except String (Bool × Sre.Seen) → Bool
  | .ok (a, s), .ok (b, u) => a == b && s.words == u.words && s.others == u.others
  | _, _ => false
theorem eqAcc_eq {x y : Except String (Bool × Sre.Seen)} (h : eqAcc x y = true) : x = y := by
  unfold eqAcc at h
  split at h
  · rename_i a s b u
    simp only [Bool.and_eq_true, beq_iff_eq] at h
    obtain ⟨⟨rfl, h1⟩, h2⟩ := h
    obtain ⟨w, o⟩ := s
    obtain ⟨w', o'⟩ := u
    simp only at h1 h2
    subst h1 h2
    rfl
  · cases h
def st (t : Array Nat) (m : M) : M := { m with text := t }
section
variable (cls : Nat → List Nat)
def okAcc (code : Array Nat) (i p c : Nat) (seen : Sre.Seen) : Bool := (cls p).all fun d => eqAcc (accepts code i d seen) (accepts code i c seen)
def okRun (code text : Array Nat) (i : Nat) : (n p : Nat) → Sre.Seen → Bool
  | 0, _, _ => true
  | n + 1, p, seen => okAcc cls code i p (text.getD p 0) seen && (match accepts code i (text.getD p 0) seen with
    | .ok (true, seen) => okRun code text i n (p + 1) seen
    | _ => true)
def okExec (m : M) : Bool := match ops[m.word 0]? with
  | none => true
  | some op =>
    let seen := m.seen.add (m.word 0)
    match op with
    | .ANY | .ANY_ALL | .LITERAL | .NOT_LITERAL | .IN | .LITERAL_IGNORE | .NOT_LITERAL_IGNORE | .IN_IGNORE | .LITERAL_UNI_IGNORE | .NOT_LITERAL_UNI_IGNORE
    | .IN_UNI_IGNORE | .LITERAL_LOC_IGNORE | .NOT_LITERAL_LOC_IGNORE | .IN_LOC_IGNORE => okAcc cls m.code m.pc m.pos (m.text.getD m.pos 0) seen
    | .AT => m.word 1 == 0 || (m.word 1 == 5 && (cls m.pos).all fun d => (d == 10) == (m.text.getD m.pos 0 == 10))
    | .REPEAT_ONE | .POSSESSIVE_REPEAT_ONE | .MIN_REPEAT_ONE =>
      okRun cls m.code m.text (m.pc + 4) (min (match op with | .MIN_REPEAT_ONE => m.word 2 | _ => m.word 3) ((m.lim : Int) - m.pos).toNat) m.pos (seen.add (m.word 4))
    | .GROUPREF | .GROUPREF_IGNORE | .GROUPREF_UNI_IGNORE => false
    | _ => true
def okStep (m : M) : Bool := match m.answer, m.frames with
  | some _, f :: _ => !m.hasFirstSet && (match f.wait with | .takeMore => false | _ => true)
  | some _, [] => true
  | none, _ => okExec cls m
def okAll : Nat → M → Bool
  | 0, _ => true
  | n + 1, m => m.outcome.isSome || (okStep cls m && okAll n m.step)
variable {cls} {t : Array Nat} (ht : ∀ p, t.getD p 0 ∈ cls p)
include ht
theorem acc_sim {code : Array Nat} {i p c : Nat} {seen : Sre.Seen} (h : okAcc cls code i p c seen = true) : accepts code i (t.getD p 0) seen = accepts code i c seen :=
  eqAcc_eq (List.all_eq_true.mp h _ (ht p))
theorem run_sim {code text : Array Nat} {i : Nat} : ∀ {n p found : Nat} {seen : Sre.Seen}, okRun cls code text i n p seen = true → Sre.run code t i n p found seen = Sre.run code text i n p found seen
  | 0, _, _, _, _ => rfl
  | n + 1, p, found, seen, h => by
    simp only [okRun, Bool.and_eq_true] at h
    unfold Sre.run
    rw [acc_sim ht h.1]
    cases e : accepts code i (text.getD p 0) seen with
    | error w => rfl
    | ok r =>
      obtain ⟨b, s'⟩ := r
      rw [e] at h
      cases b with
      | false => rfl
      | true => exact run_sim h.2
omit ht in
theorem ite_st {c : Prop} [Decidable c] {a b a' b' : M} (ha : a = st t a') (hb : b = st t b') : (if c then a else b) = st t (if c then a' else b') := by
  split
  · exact ha
  · exact hb
omit ht in
theorem attempt_st (m : M) (f : Sre.Frame) (a b : Nat) (o : Bool) : (st t m).attempt f a b o = st t (m.attempt f a b o) := ite_st rfl rfl
omit ht in
theorem alternative_st (m : M) (a : Nat) (k : Sre.Kept) : (st t m).alternative a k = st t (m.alternative a k) := ite_st rfl (attempt_st m _ _ _ _)
omit ht in
theorem afterRun_st (m : M) (w : Sre.Wait) (c : Int) (k : Sre.Kept) : (st t m).afterRun w c k = st t (m.afterRun w c k) := attempt_st m _ _ _ _
omit ht in
theorem afterLoop_st (m : M) (w : Sre.Wait) (i : Nat) (c : Int) (f : Option Nat → Bool) : (st t m).afterLoop w i c f = st t (m.afterLoop w i c f) := attempt_st { m with inner := (m.loopAt i).outer } _ _ _ _
omit ht in
theorem round_st (m : M) (w : Sre.Wait) (i : Nat) (c : Int) (g : Bool) (k : Sre.Kept) : (st t m).round w i c g k = st t (m.round w i c g k) := attempt_st (m.setLoop i fun l => { l with count := c, began := if g then some m.pos else l.began }) _ _ _ _
omit ht in
theorem until_st (m : M) (g : Bool) : (st t m).until_ g = st t (m.until_ g) := by
  unfold M.until_
  show (match m.inner with | none => _ | some i => _) = st t (match m.inner with | none => _ | some i => _)
  cases m.inner with
  | none => rfl
  | some i => exact ite_st (round_st m _ _ _ _ _) (ite_st (afterLoop_st m _ _ _ _) (ite_st (round_st m _ _ _ _ _) (afterLoop_st m _ _ _ _)))
omit ht in
theorem possessive_st (m : M) (i : Nat) (c : Int) (b : Option Nat) : (st t m).possessive i c b = st t (m.possessive i c b) :=
  ite_st (attempt_st m _ _ _ _) (ite_st (attempt_st m _ _ _ _) rfl)
theorem one_sim {m : M} {f : Except String (Bool × Sre.Seen) → M → M} (hf : ∀ x, f x (st t m) = st t (f x m)) {i : Nat} {s : Sre.Seen} (h : okAcc cls m.code i m.pos (m.text.getD m.pos 0) s = true) :
    f (accepts m.code i (t.getD m.pos 0) s) (st t m) = st t (f (accepts m.code i (m.text.getD m.pos 0) s) m) := by rw [acc_sim ht h]; exact hf _
set_option maxHeartbeats 2000000 in
theorem exec_sim {m : M} (h : okExec cls m = true) : (st t m).exec = st t m.exec := by
  unfold okExec at h
  unfold M.exec
  show (match ops[m.word 0]? with | none => _ | some op => _) = st t (match ops[m.word 0]? with | none => _ | some op => _)
  cases hop : ops[m.word 0]? with
  | none => rfl
  | some op =>
    rw [hop] at h
    cases op
    case FAILURE => rfl
    case SUCCESS => exact ite_st rfl rfl
    case JUMP => rfl
    case INFO => rfl
    case MARK => rfl
    case BRANCH => exact alternative_st { m with seen := m.seen.add (m.word 0) } _ _
    case REPEAT => exact attempt_st { m with seen := m.seen.add (m.word 0), loops := m.loops.push { pc := m.pc, outer := m.inner }, inner := some m.loops.size } _ _ _ _
    case MAX_UNTIL => exact until_st { m with seen := m.seen.add (m.word 0), pc := m.pc + 1 } _
    case MIN_UNTIL => exact until_st { m with seen := m.seen.add (m.word 0), pc := m.pc + 1 } _
    case POSSESSIVE_REPEAT => exact possessive_st { m with seen := m.seen.add (m.word 0), loops := m.loops.push { pc := 0, outer := m.inner }, inner := some m.loops.size, handed := m.pos } _ _ _
    case ATOMIC_GROUP => exact attempt_st { m with seen := m.seen.add (m.word 0) } _ _ _ _
    case GROUPREF => cases h
    case GROUPREF_IGNORE => cases h
    case GROUPREF_UNI_IGNORE => cases h
    case GROUPREF_EXISTS => rfl
    case GROUPREF_LOC_IGNORE => rfl
    case CATEGORY => rfl
    case CHARSET => rfl
    case BIGCHARSET => rfl
    case NEGATE => rfl
    case RANGE => rfl
    case RANGE_UNI_IGNORE => rfl
    case SUBPATTERN => rfl
    case ASSERT => exact ite_st (ite_st rfl rfl) (attempt_st { m with seen := m.seen.add (m.word 0) } _ _ _ _)
    case ASSERT_NOT => exact ite_st (ite_st rfl rfl) (attempt_st { m with seen := m.seen.add (m.word 0) } _ _ _ _)
    case AT =>
      dsimp only at h ⊢
      have e : (M.isAt { st t m with seen := m.seen.add (m.word 0) } (m.word 1)) = M.isAt { m with seen := m.seen.add (m.word 0) } (m.word 1) := by
        rcases Bool.or_eq_true_iff.mp h with h | h
        · rw [beq_iff_eq.mp h]; rfl
        · have h := Bool.and_eq_true_iff.mp h
          have h2 := beq_iff_eq.mp (List.all_eq_true.mp h.2 _ (ht m.pos))
          rw [beq_iff_eq.mp h.1]
          show Except.ok (_ || (_ && (t.getD m.pos 0 == 10))) = Except.ok (_ || (_ && (m.text.getD m.pos 0 == 10)))
          rw [h2]; rfl
      show (match M.isAt { st t m with seen := m.seen.add (m.word 0) } (m.word 1) with | .error why => _ | .ok yes => _) = st t (match M.isAt { m with seen := m.seen.add (m.word 0) } (m.word 1) with | .error why => _ | .ok yes => _)
      rw [e]
      cases M.isAt { m with seen := m.seen.add (m.word 0) } (m.word 1) with
      | error w => rfl
      | ok y => exact ite_st rfl rfl
    case ANY =>
      refine ite_st rfl ?_
      show (match accepts m.code m.pc (t.getD m.pos 0) (m.seen.add (m.word 0)) with | .error why => _ | .ok (false, seen) => _ | .ok (true, seen) => _) = st t (match accepts m.code m.pc (m.text.getD m.pos 0) (m.seen.add (m.word 0)) with | .error why => _ | .ok (false, seen) => _ | .ok (true, seen) => _)
      rw [acc_sim ht h]
      rcases accepts m.code m.pc (m.text.getD m.pos 0) (m.seen.add (m.word 0)) with w | ⟨_ | _, s'⟩ <;> rfl
    case ANY_ALL =>
      refine ite_st rfl ?_
      show (match accepts m.code m.pc (t.getD m.pos 0) (m.seen.add (m.word 0)) with | .error why => _ | .ok (false, seen) => _ | .ok (true, seen) => _) = st t (match accepts m.code m.pc (m.text.getD m.pos 0) (m.seen.add (m.word 0)) with | .error why => _ | .ok (false, seen) => _ | .ok (true, seen) => _)
      rw [acc_sim ht h]
      rcases accepts m.code m.pc (m.text.getD m.pos 0) (m.seen.add (m.word 0)) with w | ⟨_ | _, s'⟩ <;> rfl
    case LITERAL =>
      refine ite_st rfl ?_
      show (match accepts m.code m.pc (t.getD m.pos 0) (m.seen.add (m.word 0)) with | .error why => _ | .ok (false, seen) => _ | .ok (true, seen) => _) = st t (match accepts m.code m.pc (m.text.getD m.pos 0) (m.seen.add (m.word 0)) with | .error why => _ | .ok (false, seen) => _ | .ok (true, seen) => _)
      rw [acc_sim ht h]
      rcases accepts m.code m.pc (m.text.getD m.pos 0) (m.seen.add (m.word 0)) with w | ⟨_ | _, s'⟩ <;> rfl
    case NOT_LITERAL =>
      refine ite_st rfl ?_
      show (match accepts m.code m.pc (t.getD m.pos 0) (m.seen.add (m.word 0)) with | .error why => _ | .ok (false, seen) => _ | .ok (true, seen) => _) = st t (match accepts m.code m.pc (m.text.getD m.pos 0) (m.seen.add (m.word 0)) with | .error why => _ | .ok (false, seen) => _ | .ok (true, seen) => _)
      rw [acc_sim ht h]
      rcases accepts m.code m.pc (m.text.getD m.pos 0) (m.seen.add (m.word 0)) with w | ⟨_ | _, s'⟩ <;> rfl
    case IN =>
      refine ite_st rfl ?_
      show (match accepts m.code m.pc (t.getD m.pos 0) (m.seen.add (m.word 0)) with | .error why => _ | .ok (false, seen) => _ | .ok (true, seen) => _) = st t (match accepts m.code m.pc (m.text.getD m.pos 0) (m.seen.add (m.word 0)) with | .error why => _ | .ok (false, seen) => _ | .ok (true, seen) => _)
      rw [acc_sim ht h]
      rcases accepts m.code m.pc (m.text.getD m.pos 0) (m.seen.add (m.word 0)) with w | ⟨_ | _, s'⟩ <;> rfl
    case LITERAL_IGNORE =>
      refine ite_st rfl ?_
      show (match accepts m.code m.pc (t.getD m.pos 0) (m.seen.add (m.word 0)) with | .error why => _ | .ok (false, seen) => _ | .ok (true, seen) => _) = st t (match accepts m.code m.pc (m.text.getD m.pos 0) (m.seen.add (m.word 0)) with | .error why => _ | .ok (false, seen) => _ | .ok (true, seen) => _)
      rw [acc_sim ht h]
      rcases accepts m.code m.pc (m.text.getD m.pos 0) (m.seen.add (m.word 0)) with w | ⟨_ | _, s'⟩ <;> rfl
    case NOT_LITERAL_IGNORE =>
      refine ite_st rfl ?_
      show (match accepts m.code m.pc (t.getD m.pos 0) (m.seen.add (m.word 0)) with | .error why => _ | .ok (false, seen) => _ | .ok (true, seen) => _) = st t (match accepts m.code m.pc (m.text.getD m.pos 0) (m.seen.add (m.word 0)) with | .error why => _ | .ok (false, seen) => _ | .ok (true, seen) => _)
      rw [acc_sim ht h]
      rcases accepts m.code m.pc (m.text.getD m.pos 0) (m.seen.add (m.word 0)) with w | ⟨_ | _, s'⟩ <;> rfl
    case IN_IGNORE =>
      refine ite_st rfl ?_
      show (match accepts m.code m.pc (t.getD m.pos 0) (m.seen.add (m.word 0)) with | .error why => _ | .ok (false, seen) => _ | .ok (true, seen) => _) = st t (match accepts m.code m.pc (m.text.getD m.pos 0) (m.seen.add (m.word 0)) with | .error why => _ | .ok (false, seen) => _ | .ok (true, seen) => _)
      rw [acc_sim ht h]
      rcases accepts m.code m.pc (m.text.getD m.pos 0) (m.seen.add (m.word 0)) with w | ⟨_ | _, s'⟩ <;> rfl
    case LITERAL_UNI_IGNORE =>
      refine ite_st rfl ?_
      show (match accepts m.code m.pc (t.getD m.pos 0) (m.seen.add (m.word 0)) with | .error why => _ | .ok (false, seen) => _ | .ok (true, seen) => _) = st t (match accepts m.code m.pc (m.text.getD m.pos 0) (m.seen.add (m.word 0)) with | .error why => _ | .ok (false, seen) => _ | .ok (true, seen) => _)
      rw [acc_sim ht h]
      rcases accepts m.code m.pc (m.text.getD m.pos 0) (m.seen.add (m.word 0)) with w | ⟨_ | _, s'⟩ <;> rfl
    case NOT_LITERAL_UNI_IGNORE =>
      refine ite_st rfl ?_
      show (match accepts m.code m.pc (t.getD m.pos 0) (m.seen.add (m.word 0)) with | .error why => _ | .ok (false, seen) => _ | .ok (true, seen) => _) = st t (match accepts m.code m.pc (m.text.getD m.pos 0) (m.seen.add (m.word 0)) with | .error why => _ | .ok (false, seen) => _ | .ok (true, seen) => _)
      rw [acc_sim ht h]
      rcases accepts m.code m.pc (m.text.getD m.pos 0) (m.seen.add (m.word 0)) with w | ⟨_ | _, s'⟩ <;> rfl
    case IN_UNI_IGNORE =>
      refine ite_st rfl ?_
      show (match accepts m.code m.pc (t.getD m.pos 0) (m.seen.add (m.word 0)) with | .error why => _ | .ok (false, seen) => _ | .ok (true, seen) => _) = st t (match accepts m.code m.pc (m.text.getD m.pos 0) (m.seen.add (m.word 0)) with | .error why => _ | .ok (false, seen) => _ | .ok (true, seen) => _)
      rw [acc_sim ht h]
      rcases accepts m.code m.pc (m.text.getD m.pos 0) (m.seen.add (m.word 0)) with w | ⟨_ | _, s'⟩ <;> rfl
    case LITERAL_LOC_IGNORE =>
      refine ite_st rfl ?_
      show (match accepts m.code m.pc (t.getD m.pos 0) (m.seen.add (m.word 0)) with | .error why => _ | .ok (false, seen) => _ | .ok (true, seen) => _) = st t (match accepts m.code m.pc (m.text.getD m.pos 0) (m.seen.add (m.word 0)) with | .error why => _ | .ok (false, seen) => _ | .ok (true, seen) => _)
      rw [acc_sim ht h]
      rcases accepts m.code m.pc (m.text.getD m.pos 0) (m.seen.add (m.word 0)) with w | ⟨_ | _, s'⟩ <;> rfl
    case NOT_LITERAL_LOC_IGNORE =>
      refine ite_st rfl ?_
      show (match accepts m.code m.pc (t.getD m.pos 0) (m.seen.add (m.word 0)) with | .error why => _ | .ok (false, seen) => _ | .ok (true, seen) => _) = st t (match accepts m.code m.pc (m.text.getD m.pos 0) (m.seen.add (m.word 0)) with | .error why => _ | .ok (false, seen) => _ | .ok (true, seen) => _)
      rw [acc_sim ht h]
      rcases accepts m.code m.pc (m.text.getD m.pos 0) (m.seen.add (m.word 0)) with w | ⟨_ | _, s'⟩ <;> rfl
    case IN_LOC_IGNORE =>
      refine ite_st rfl ?_
      show (match accepts m.code m.pc (t.getD m.pos 0) (m.seen.add (m.word 0)) with | .error why => _ | .ok (false, seen) => _ | .ok (true, seen) => _) = st t (match accepts m.code m.pc (m.text.getD m.pos 0) (m.seen.add (m.word 0)) with | .error why => _ | .ok (false, seen) => _ | .ok (true, seen) => _)
      rw [acc_sim ht h]
      rcases accepts m.code m.pc (m.text.getD m.pos 0) (m.seen.add (m.word 0)) with w | ⟨_ | _, s'⟩ <;> rfl
    case REPEAT_ONE =>
      refine ite_st rfl ?_
      have e : Sre.run m.code t (m.pc + 4) (min (m.word 3) ((m.lim : Int) - m.pos).toNat) m.pos 0 ((m.seen.add (m.word 0)).add (m.word 4)) = Sre.run m.code m.text (m.pc + 4) (min (m.word 3) ((m.lim : Int) - m.pos).toNat) m.pos 0 ((m.seen.add (m.word 0)).add (m.word 4)) := run_sim ht h
      show (match Sre.run m.code t (m.pc + 4) (min (m.word 3) ((m.lim : Int) - m.pos).toNat) m.pos 0 ((m.seen.add (m.word 0)).add (m.word 4)) with | .error why => _ | .ok (n, seen) => _) = st t (match Sre.run m.code m.text (m.pc + 4) (min (m.word 3) ((m.lim : Int) - m.pos).toNat) m.pos 0 ((m.seen.add (m.word 0)).add (m.word 4)) with | .error why => _ | .ok (n, seen) => _)
      rw [e]
      rcases Sre.run m.code m.text (m.pc + 4) (min (m.word 3) ((m.lim : Int) - m.pos).toNat) m.pos 0 ((m.seen.add (m.word 0)).add (m.word 4)) with w | ⟨n, s'⟩
      · rfl
      · exact ite_st rfl (afterRun_st { m with seen := s', pos := m.pos + n } _ _ _)
    case POSSESSIVE_REPEAT_ONE =>
      refine ite_st rfl ?_
      have e : Sre.run m.code t (m.pc + 4) (min (m.word 3) ((m.lim : Int) - m.pos).toNat) m.pos 0 ((m.seen.add (m.word 0)).add (m.word 4)) = Sre.run m.code m.text (m.pc + 4) (min (m.word 3) ((m.lim : Int) - m.pos).toNat) m.pos 0 ((m.seen.add (m.word 0)).add (m.word 4)) := run_sim ht h
      show (match Sre.run m.code t (m.pc + 4) (min (m.word 3) ((m.lim : Int) - m.pos).toNat) m.pos 0 ((m.seen.add (m.word 0)).add (m.word 4)) with | .error why => _ | .ok (n, seen) => _) = st t (match Sre.run m.code m.text (m.pc + 4) (min (m.word 3) ((m.lim : Int) - m.pos).toNat) m.pos 0 ((m.seen.add (m.word 0)).add (m.word 4)) with | .error why => _ | .ok (n, seen) => _)
      rw [e]
      rcases Sre.run m.code m.text (m.pc + 4) (min (m.word 3) ((m.lim : Int) - m.pos).toNat) m.pos 0 ((m.seen.add (m.word 0)).add (m.word 4)) with w | ⟨n, s'⟩
      · rfl
      · exact ite_st rfl (rfl)
    case MIN_REPEAT_ONE =>
      refine ite_st rfl ?_
      have e : Sre.run m.code t (m.pc + 4) (min (m.word 2) ((m.lim : Int) - m.pos).toNat) m.pos 0 ((m.seen.add (m.word 0)).add (m.word 4)) = Sre.run m.code m.text (m.pc + 4) (min (m.word 2) ((m.lim : Int) - m.pos).toNat) m.pos 0 ((m.seen.add (m.word 0)).add (m.word 4)) := run_sim ht h
      show (match Sre.run m.code t (m.pc + 4) (min (m.word 2) ((m.lim : Int) - m.pos).toNat) m.pos 0 ((m.seen.add (m.word 0)).add (m.word 4)) with | .error why => _ | .ok (n, seen) => _) = st t (match Sre.run m.code m.text (m.pc + 4) (min (m.word 2) ((m.lim : Int) - m.pos).toNat) m.pos 0 ((m.seen.add (m.word 0)).add (m.word 4)) with | .error why => _ | .ok (n, seen) => _)
      rw [e]
      rcases Sre.run m.code m.text (m.pc + 4) (min (m.word 2) ((m.lim : Int) - m.pos).toNat) m.pos 0 ((m.seen.add (m.word 0)).add (m.word 4)) with w | ⟨n, s'⟩
      · rfl
      · exact ite_st rfl (afterRun_st { m with seen := s', pos := m.pos + n } _ _ _)
omit ht in
theorem attemptFrom_st {m : M} (h1 : m.hasFirstSet = false) (s : Nat) (b : Bool) : (st t m).attemptFrom s b = st t (m.attemptFrom s b) := by
  have h1' : (st t m).hasFirstSet = false := h1
  unfold M.attemptFrom
  rw [h1, h1']
  exact attempt_st { m with start := s, pos := s, lastmark := -1, lastindex := -1 } _ _ _ _
omit ht in
theorem resume_sim {m : M} {f : Sre.Frame} {yes : Bool} (h1 : m.hasFirstSet = false) (h2 : (match f.wait with | .takeMore => false | _ => true) = true) : M.resume (st t m) f yes = st t (M.resume m f yes) := by
  unfold M.resume
  dsimp only
  cases hw : f.wait
  case takeMore => rw [hw] at h2; cases h2
  case nextStart => exact ite_st rfl (ite_st (attemptFrom_st (m := { m with mustAdvance := false }) h1 _ _) rfl)
  case nextBranch => exact ite_st rfl (alternative_st (m.putBack f.kept) _ _)
  case giveBack => exact ite_st rfl (ite_st rfl (afterRun_st { m.putBack f.kept with pos := f.pos - 1 } _ _ _))
  case closeLoop => rfl
  case maxBelow => exact ite_st rfl rfl
  case minBelow => exact ite_st rfl rfl
  case maxMore => exact ite_st rfl (afterLoop_st (((m.setLoop f.loop fun l => { l with began := f.began }).putBack f.kept).setLoop f.loop fun l => { l with count := f.count - 1 }) _ _ _ _)
  case maxTail => rfl
  case minTail => exact ite_st rfl (ite_st rfl (round_st (M.putBack { m with inner := some f.loop } f.kept) _ _ _ _ _))
  case minMore => exact ite_st rfl rfl
  case possBelow => exact ite_st (possessive_st m _ _ _) rfl
  case possMore => exact ite_st (possessive_st m _ _ _) (possessive_st { m.putBack f.kept with handed := f.pos } _ _ _)
  case atomic => exact ite_st rfl rfl
  case look => exact ite_st rfl rfl
  case lookNot => exact ite_st rfl rfl
theorem step_sim {m : M} (h : okStep cls m = true) : (st t m).step = st t m.step := by
  unfold M.step
  refine ite_st rfl ?_
  unfold okStep at h
  obtain ⟨code, text, lim, start, lastStart, wholeText, mustAdvance, pc, pos, handed, outermost, marks, lastmark, lastindex, loops, inner, frames, weight, answer, seen, outcome⟩ := m
  cases answer with
  | none => exact ite_st (exec_sim ht h) rfl
  | some yes =>
    cases frames with
    | nil => rfl
    | cons f rest =>
      have h := Bool.and_eq_true_iff.mp h
      exact resume_sim (m := ⟨code, text, lim, start, lastStart, wholeText, mustAdvance, f.pc, f.pos, handed, f.outermost, marks, lastmark, lastindex, loops, inner, rest, weight - (1 + f.kept.marks.size), none, seen, outcome⟩) (by cases e : M.hasFirstSet ⟨code, text, lim, start, lastStart, wholeText, mustAdvance, pc, pos, handed, outermost, marks, lastmark, lastindex, loops, inner, f :: rest, weight, some yes, seen, outcome⟩ with | false => exact e | true => rw [e] at h; cases h.1) h.2
theorem runFor_sim : ∀ {n : Nat} {m : M}, okAll cls n m = true → (st t m).runFor n = st t (m.runFor n)
  | 0, _, _ => rfl
  | n + 1, m, h => by
    unfold M.runFor
    unfold okAll at h
    show (if m.outcome.isSome = true then st t m else M.runFor n (st t m).step) = st t (if m.outcome.isSome = true then m else M.runFor n m.step)
    by_cases ho : m.outcome.isSome = true
    · rw [if_pos ho, if_pos ho]
    · rw [if_neg ho, if_neg ho]
      have h : (okStep cls m && okAll cls n m.step) = true := by simpa [ho] using h
      have h := Bool.and_eq_true_iff.mp h
      rw [step_sim ht h.1]
      exact runFor_sim h.2
end

end
section


/-! ## TIMEZONE_RE upon a clock -/
open PySem.Sre (M)
def tzc : Array Nat := #[14, 4, 0, 1, 6, 6, 0, 23, 14, 0, 1, 17, 0, 13, 6, 16, 45, 16, 43, 0, 17, 1, 18, 17, 2, 13, 4, 8, 0, 0, 24, 9, 0, 1, 13, 4, 8, 0, 0, 1, 17, 3, 24, 6, 0, 1, 16, 58, 1, 23, 17, 0, 1, 17, 4, 13, 4, 8, 0, 0, 13, 4, 8, 0, 0, 17, 5, 18, 6, 5, 1]
def digs : List Nat := [48, 49, 50, 51, 52, 53, 54, 55]
def cls4 : Nat → List Nat
  | 0 | 1 | 2 | 3 => digs
  | _ => [0]
def clsC : Nat → List Nat
  | 0 | 1 | 3 | 4 => digs
  | 2 => [58]
  | _ => [0]
def clsS (c : Nat) : Nat → List Nat
  | 0 => [c]
  | 1 | 2 | 3 | 4 => digs
  | _ => [0]
theorem ok4 : okAll cls4 32 (Sre.forSearch tzc #[48, 48, 48, 48] 3 0 4 false) = true := by decide +kernel
theorem okC : okAll clsC 32 (Sre.forSearch tzc #[48, 48, 58, 48, 48] 3 0 5 false) = true := by decide +kernel
theorem okP : okAll (clsS 43) 32 (Sre.forSearch tzc #[43, 48, 48, 48, 48] 3 0 5 false) = true := by decide +kernel
theorem okM : okAll (clsS 45) 32 (Sre.forSearch tzc #[45, 48, 48, 48, 48] 3 0 5 false) = true := by decide +kernel
def hit (m : M) (marks : List (Option Nat)) (n : Nat) : Bool := m.marks.toList == marks && m.lastmark == 5 && m.lastindex == 3 && m.start == 0 && m.handed == n && (match m.outcome with | some .matched => true | _ => false)
theorem hit4 : hit ((Sre.forSearch tzc #[48, 48, 48, 48] 3 0 4 false).runFor 32) [none, none, some 0, some 2, some 2, some 4] 4 = true := by decide +kernel
theorem hitC : hit ((Sre.forSearch tzc #[48, 48, 58, 48, 48] 3 0 5 false).runFor 32) [none, none, some 0, some 2, some 3, some 5] 5 = true := by decide +kernel
theorem hitP : hit ((Sre.forSearch tzc #[43, 48, 48, 48, 48] 3 0 5 false).runFor 32) [some 0, some 1, some 1, some 3, some 3, some 5] 5 = true := by decide +kernel
theorem hitM : hit ((Sre.forSearch tzc #[45, 48, 48, 48, 48] 3 0 5 false).runFor 32) [some 0, some 1, some 1, some 3, some 3, some 5] 5 = true := by decide +kernel
theorem runs {cls : Nat → List Nat} {t t0 : Array Nat} {n : Nat} {marks : List (Option Nat)} (ht : ∀ p, t.getD p 0 ∈ cls p) (hs : Sre.forSearch tzc t 3 0 n false = st t (Sre.forSearch tzc t0 3 0 n false))
    (ok : okAll cls 32 (Sre.forSearch tzc t0 3 0 n false) = true) (h : hit ((Sre.forSearch tzc t0 3 0 n false).runFor 32) marks n = true) : hit ((Sre.forSearch tzc t 3 0 n false).runFor 32) marks n = true := by
  rw [hs, runFor_sim ht ok]
  exact h
theorem dig_mem {d : Nat} (h : d < 8) : 48 + d ∈ digs := by
  have : d = 0 ∨ d = 1 ∨ d = 2 ∨ d = 3 ∨ d = 4 ∨ d = 5 ∨ d = 6 ∨ d = 7 := by omega
  rcases this with rfl | rfl | rfl | rfl | rfl | rfl | rfl | rfl <;> decide
section
variable {d0 d1 d2 d3 : Nat} (h0 : d0 < 8) (h1 : d1 < 8) (h2 : d2 < 8) (h3 : d3 < 8)
include h0 h1 h2 h3
theorem run4 : hit ((Sre.forSearch tzc #[48 + d0, 48 + d1, 48 + d2, 48 + d3] 3 0 4 false).runFor 32) [none, none, some 0, some 2, some 2, some 4] 4 = true :=
  runs (cls := cls4) (fun p => by
    match p with
    | 0 => exact dig_mem h0
    | 1 => exact dig_mem h1
    | 2 => exact dig_mem h2
    | 3 => exact dig_mem h3
    | n + 4 => exact List.mem_singleton.mpr rfl) (by kernel_rfl) ok4 hit4
theorem runC : hit ((Sre.forSearch tzc #[48 + d0, 48 + d1, 58, 48 + d2, 48 + d3] 3 0 5 false).runFor 32) [none, none, some 0, some 2, some 3, some 5] 5 = true :=
  runs (cls := clsC) (fun p => by
    match p with
    | 0 => exact dig_mem h0
    | 1 => exact dig_mem h1
    | 2 => exact List.mem_singleton.mpr rfl
    | 3 => exact dig_mem h2
    | 4 => exact dig_mem h3
    | n + 5 => exact List.mem_singleton.mpr rfl) (by kernel_rfl) okC hitC
theorem runP : hit ((Sre.forSearch tzc #[43, 48 + d0, 48 + d1, 48 + d2, 48 + d3] 3 0 5 false).runFor 32) [some 0, some 1, some 1, some 3, some 3, some 5] 5 = true :=
  runs (cls := clsS 43) (fun p => by
    match p with
    | 0 => exact List.mem_singleton.mpr rfl
    | 1 => exact dig_mem h0
    | 2 => exact dig_mem h1
    | 3 => exact dig_mem h2
    | 4 => exact dig_mem h3
    | n + 5 => exact List.mem_singleton.mpr rfl) (by kernel_rfl) okP hitP
theorem runM : hit ((Sre.forSearch tzc #[45, 48 + d0, 48 + d1, 48 + d2, 48 + d3] 3 0 5 false).runFor 32) [some 0, some 1, some 1, some 3, some 3, some 5] 5 = true :=
  runs (cls := clsS 45) (fun p => by
    match p with
    | 0 => exact List.mem_singleton.mpr rfl
    | 1 => exact dig_mem h0
    | 2 => exact dig_mem h1
    | 3 => exact dig_mem h2
    | 4 => exact dig_mem h3
    | n + 5 => exact List.mem_singleton.mpr rfl) (by kernel_rfl) okM hitM
end

end
section


/-! ## the runs of re.Pattern.search -/
open PySem.Sre (M)
open PySem.Builtin.Re
theorem runFor_fin {m : M} (h : m.outcome.isSome = true) : ∀ n, m.runFor n = m
  | 0 => rfl
  | n + 1 => by unfold M.runFor; rw [if_pos h]
theorem runFor_add (m : M) : ∀ (a b : Nat), m.runFor (a + b) = (m.runFor a).runFor b := by
  intro a
  induction a generalizing m with
  | zero => intro b; rw [Nat.zero_add]; rfl
  | succ a ih =>
    intro b
    rw [Nat.succ_add]
    by_cases h : m.outcome.isSome = true
    · rw [runFor_fin h, runFor_fin h, runFor_fin h]
    · show (if m.outcome.isSome = true then m else M.runFor (a + b) m.step) = M.runFor b (if m.outcome.isSome = true then m else M.runFor a m.step)
      rw [if_neg h, if_neg h, ih]
section
variable {Mo : Model} {A : Around} {E : Value → Shared → Prop} {s : Shared}
theorem drive : ∀ (k turns : Nat) {m : M} {Q : M → Shared → Prop}, k < turns → (m.runFor (4 * k)).outcome.isSome = true → Q (m.runFor (4 * k)) s → wpAny Mo A (reDrive turns m) Q E s
  | k, 0, _, _, hk, _, _ => absurd hk (Nat.not_lt_zero _)
  | 0, turns + 1, m, Q, _, ho, hq => by
    have ho' : m.outcome.isSome = true := ho
    unfold reDrive
    dsimp only
    rw [runFor_fin ho', if_pos ho']
    exact wpAny_pure hq
  | k + 1, turns + 1, m, Q, hk, ho, hq => by
    have e : m.runFor (4 * (k + 1)) = (m.runFor 4).runFor (4 * k) := by rw [show 4 * (k + 1) = 4 + 4 * k from by omega, runFor_add]
    rw [e] at ho hq
    unfold reDrive
    dsimp only
    show wpAny Mo A (if (m.runFor 4).outcome.isSome = true then pure (m.runFor 4) else do rule "sre.turn"; reDrive turns (m.runFor 4)) Q E s
    by_cases h : (m.runFor 4).outcome.isSome = true
    · rw [if_pos h]
      rw [runFor_fin h] at hq
      exact wpAny_pure hq
    · rw [if_neg h]
      exact wpAny_bind (wpAny_rule (drive k turns (by omega) ho hq))
theorem saidAll {c : Nat → Bool} {f : Nat → String} : ∀ (l : List Nat) {Q : PUnit → Shared → Prop}, Q ⟨⟩ s → wpAny Mo A (forIn l PUnit.unit fun i _ => if c i then (rule (f i) >>= fun _ => pure (ForInStep.yield PUnit.unit)) else pure (ForInStep.yield PUnit.unit)) Q E s
  | [], _, h => wpAny_pure h
  | i :: l, Q, h => by
    rw [List.forIn_cons]
    refine wpAny_bind ?_
    cases c i with
    | true => exact wpAny_bind (wpAny_rule (wpAny_pure (saidAll l h)))
    | false => exact wpAny_pure (saidAll l h)
theorem toEnd_hit {m : M} {marks : List (Option Nat)} {n : Nat} {Q : Option M → Shared → Prop} (h : hit (m.runFor 32) marks n = true) (hq : Q (some (m.runFor 32)) s) : wpAny Mo A (reRunToEnd m) Q E s := by
  have ho : ∃ o, (m.runFor 32).outcome = some o ∧ (match some o with | some .matched => true | _ => false) = true := by
    simp only [hit, Bool.and_eq_true] at h
    cases e : (m.runFor 32).outcome with
    | none => rw [e] at h; cases h.2
    | some o => rw [e] at h; exact ⟨o, rfl, h.2⟩
  obtain ⟨o, ho, hm⟩ := ho
  unfold reRunToEnd
  refine wpAny_bind (drive 8 (2 ^ 64) (by decide) (by show (m.runFor 32).outcome.isSome = true; rw [ho]; rfl) ?_)
  refine wpAny_bind (saidAll _ ?_)
  show wpAny Mo A (match (m.runFor 32).outcome with | some .matched => pure (some (m.runFor 32)) | some .failed => pure none | some (.stuck why) => _ | none => _) Q E s
  rw [ho]
  cases o with
  | matched => exact wpAny_pure hq
  | failed => cases hm
  | stuck w => cases hm
end

end
section


/-! ## TIMEZONE_RE.search(clock) -/
open PySem.Sre (M)
open PySem.Builtin.Re
theorem target4 {w : World} {prog : Program} {h : Heap} (X : (K w.params).In h) (a b c d : Nat) (t : Tok) :
    Looks (model prog w) h (reTarget "re.Pattern.search" "search" ⟨[.ref 50, .str ⟨#[a, b, c, d]⟩ t], []⟩) ⟨.ref 50, .str ⟨#[a, b, c, d]⟩ t, tzc, #[a, b, c, d], 0, 3, 0, 4⟩ := Looks.of_peek X (by kernel_rfl)
theorem target5 {w : World} {prog : Program} {h : Heap} (X : (K w.params).In h) (a b c d e : Nat) (t : Tok) :
    Looks (model prog w) h (reTarget "re.Pattern.search" "search" ⟨[.ref 50, .str ⟨#[a, b, c, d, e]⟩ t], []⟩) ⟨.ref 50, .str ⟨#[a, b, c, d, e]⟩ t, tzc, #[a, b, c, d, e], 0, 3, 0, 5⟩ := Looks.of_peek X (by kernel_rfl)
theorem pat_slot : Slot "re.Pattern" "search" "re.Pattern.search" :=
  .of (owner := "re.Pattern") (n := "search") (by rw [typeLookup_type, builtinLookup_eq_fast]; kernel_rfl) (by decide +kernel) (by decide +kernel) (by decide +kernel)
    (by first | exact .inl (by decide +kernel) | exact .inr (by decide +kernel)) (by rw [isSubtype_type]; kernel_rfl)
theorem pat_entry : entryFor table "re.Pattern.search" = some Builtin.«re.Pattern.search» := entryFor_of_tree (by kernel_rfl)
@[reducible] def matchO (v : Value) (n : Nat) (T : Addr) : Obj := { cls := .type "re.Match", data := .fields #[v, .ref 50, rawInt 0, rawInt n, rawInt 3, .ref T] }
@[reducible] def spanO (n : Nat) (sp : List Value) : Obj := { cls := .type "tuple", data := .seq (rawInt 0 :: rawInt n :: sp).toArray }
def spansOf (marks : List (Option Nat)) : List Value := match marks with
  | [a, b, c, d, e, f] => (match a, b with | some x, some y => [rawInt x, rawInt y] | _, _ => [rawInt (-1), rawInt (-1)]) ++ (match c, d with | some x, some y => [rawInt x, rawInt y] | _, _ => [rawInt (-1), rawInt (-1)]) ++ (match e, f with | some x, some y => [rawInt x, rawInt y] | _, _ => [rawInt (-1), rawInt (-1)])
  | _ => []
section
variable {prog : Program} {w : World} {A : Around} {E : Value → Shared → Prop} {s : Shared}
theorem newMatch {m : M} {v : Value} {n : Nat} {marks : List (Option Nat)} {Q : Value → Shared → Prop} (hm : hit m marks n = true)
    (hs : marks = [none, none, some 0, some 2, some 2, some 4] ∨ marks = [none, none, some 0, some 2, some 3, some 5] ∨ marks = [some 0, some 1, some 1, some 3, some 3, some 5])
    (h : Q (.ref (s.heap.objs.size + 1)) { s with heap := (s.heap.push (spanO n (spansOf marks))).push (matchO v n s.heap.objs.size) }) :
    wpAny (model prog w) A (reNewMatch (.ref 50) v 3 0 n m) Q E s := by
  simp only [hit, Bool.and_eq_true, beq_iff_eq] at hm
  obtain ⟨⟨⟨⟨⟨h1, h2⟩, h3⟩, h4⟩, h5⟩, _⟩ := hm
  have h1 : m.marks = ⟨marks⟩ := by rw [← h1]
  unfold reNewMatch
  simp only [h1, h2, h3, h4, h5]
  have fin : ∀ sp : List Value, sp.length ≤ 6 → sp = spansOf marks → wpAny (model prog w) A (newTuple (rawInt 0 :: rawInt n :: sp) >>= fun T => newFields "re.Match" [v, .ref 50, rawInt 0, rawInt n, rawInt 3, T]) Q E s := by
    intro sp hl e
    refine wpAny_bind (wpAny_newTuple ?_ (by simp [sizeLine]; omega))
    refine wpAny_newObj_type ?_
    subst e
    have e2 : (s.heap.push (spanO n (spansOf marks))).objs.size = s.heap.objs.size + 1 := Heap.size_push ..
    rw [← e2] at h
    exact h
  rcases hs with rfl | rfl | rfl
  · exact fin [rawInt (-1), rawInt (-1), rawInt 0, rawInt 2, rawInt 2, rawInt 4] (by decide) rfl
  · exact fin [rawInt (-1), rawInt (-1), rawInt 0, rawInt 2, rawInt 3, rawInt 5] (by decide) rfl
  · exact fin [rawInt 0, rawInt 1, rawInt 1, rawInt 3, rawInt 3, rawInt 5] (by decide) rfl
theorem searchK {Q : Value → Shared → Prop} {h₀ : Heap} {L : Addr} {m : Str → Option Value} {news : Led} {v : Value} {t : Array Nat} {n : Nat} {marks : List (Option Nat)} (F : Fr h₀ L s.heap m) (X : (K w.params).In h₀) (N : News h₀ L s.heap news)
    (ht : Looks (model prog w) s.heap (reTarget "re.Pattern.search" "search" ⟨[.ref 50, v], []⟩) ⟨.ref 50, v, tzc, t, 0, 3, 0, n⟩) (hok : argsOk "re.Pattern.search" ⟨[.ref 50, v], []⟩)
    (hm : hit ((Sre.forSearch tzc t 3 0 n false).runFor 32) marks n = true)
    (hs : marks = [none, none, some 0, some 2, some 2, some 4] ∨ marks = [none, none, some 0, some 2, some 3, some 5] ∨ marks = [some 0, some 1, some 1, some 3, some 3, some 5])
    (h : ∀ (mo T : Nat) h', Fr h₀ L h' m → News h₀ L h' ((mo, matchO v n T) :: (T, spanO n (spansOf marks)) :: news) → (∀ p ∈ news, p.1 < T) → T < mo → Q (.ref mo) { s with heap := h' }) :
    wpAny (model prog w) A (call (.builtin "re.Pattern.search") [.ref 50, v]) Q E s := by
  refine wpAny_call_entry pat_slot ⟨_, (X.keeps F.keep) 50 _ rfl, rfl⟩ pat_entry ?_ hok
  unfold Builtin.«re.Pattern.search»
  refine wpAny_bind (ht.here ?_)
  unfold reAnswer
  refine wpAny_bind (toEnd_hit hm ?_)
  refine wpAny_bind (newMatch hm hs (wpAny_pure ⟨_, rfl, ?_⟩))
  have N' := (N.push F (spanO n (spansOf marks))).push (F.push _) (matchO v n s.heap.objs.size)
  rw [Heap.size_push] at N'
  exact h _ s.heap.objs.size _ ((F.push _).push _) N' (fun p hp => Heap.lt_size (N p hp).1) (Nat.lt_succ_self _)
end

end
section


/-! ## match.group(k) -/
open PySem.Builtin.Re
theorem grp_slot : Slot "re.Match" "group" "re.Match.group" :=
  .of (owner := "re.Match") (n := "group") (by rw [typeLookup_type, builtinLookup_eq_fast]; kernel_rfl) (by decide +kernel) (by decide +kernel) (by decide +kernel)
    (by first | exact .inl (by decide +kernel) | exact .inr (by decide +kernel)) (by rw [isSubtype_type]; kernel_rfl)
theorem grp_entry : entryFor table "re.Match.group" = some Builtin.«re.Match.group» := entryFor_of_tree (by kernel_rfl)
section
variable {prog : Program} {w : World} {A : Around} {E : Value → Shared → Prop} {s : Shared}
theorem found {mo T : Addr} {x : Str} {t : Tok} {n : Nat} {sp : List Value} {Q : ReFound → Shared → Prop} (ho : s.heap.get? mo = some (matchO (.str x t) n T)) (hT : s.heap.get? T = some (spanO n sp))
    (h : Q ⟨#[.str x t, .ref 50, rawInt 0, rawInt n, rawInt 3, .ref T], (rawInt 0 :: rawInt n :: sp).toArray.map reRawOf⟩ s) : wpAny (model prog w) A (reFound (.ref mo)) Q E s := by
  unfold reFound
  refine wpAny_bind (wpAny_fieldsOf ho rfl ?_)
  unfold reRawItems
  show wpAny _ _ ((seqItems? (.ref T) >>= fun v => pure ((v.getD #[]).map reRawOf)) >>= _) _ _ _
  exact wpAny_bind (wpAny_bind (wpAny_seqItems hT rfl (wpAny_pure (wpAny_pure h))))
theorem groupK {mo T : Addr} {x : Str} {t tg : Tok} {n : Nat} {sp : List Value} {g : Int} {Q : Value → Shared → Prop} (ho : s.heap.get? mo = some (matchO (.str x t) n T)) (hT : s.heap.get? T = some (spanO n sp))
    (hx : x.cps.size ≤ sizeLine) (hok : argsOk "re.Match.group" ⟨[.ref mo, .int g tg], []⟩) (hg : 0 ≤ g) (hb : 2 * g < ((rawInt 0 :: rawInt n :: sp).toArray.map reRawOf).size)
    (h1 : ∀ b e : Nat, ((rawInt 0 :: rawInt n :: sp).toArray.map reRawOf).getD (2 * g.toNat) (-1) = b → ((rawInt 0 :: rawInt n :: sp).toArray.map reRawOf).getD (2 * g.toNat + 1) (-1) = e → Q (.str ⟨x.cps.extract b e⟩ s.toks) { s with toks := s.toks + 1 })
    (h2 : ((rawInt 0 :: rawInt n :: sp).toArray.map reRawOf).getD (2 * g.toNat) (-1) = -1 → Q .none s)
    (h3 : (((rawInt 0 :: rawInt n :: sp).toArray.map reRawOf).getD (2 * g.toNat) (-1) = -1) ∨ (0 ≤ ((rawInt 0 :: rawInt n :: sp).toArray.map reRawOf).getD (2 * g.toNat) (-1) ∧ 0 ≤ ((rawInt 0 :: rawInt n :: sp).toArray.map reRawOf).getD (2 * g.toNat + 1) (-1))) :
    wpAny (model prog w) A (call (.builtin "re.Match.group") [.ref mo, .int g tg]) Q E s := by
  refine wpAny_call_entry grp_slot ⟨_, ho, rfl⟩ grp_entry ?_ hok
  unfold Builtin.«re.Match.group»
  refine wpAny_bind (wpAny_pure ?_)
  refine wpAny_bind (found ho hT ?_)
  dsimp only
  generalize (rawInt 0 :: rawInt n :: sp).toArray.map reRawOf = S at *
  have hc : (decide (g < 0) || decide (2 * g ≥ (S.size : Int))) = false := by
    rw [Bool.or_eq_false_iff, decide_eq_false_iff_not, decide_eq_false_iff_not]; omega
  have num : ∀ (Q' : Nat → Shared → Prop) (E' : Value → Shared → Prop), Q' g.toNat s → wpAny (model prog w) A.in1 (reGroupNumber ⟨#[.str x t, .ref 50, rawInt 0, rawInt n, rawInt 3, .ref T], S⟩ (.int g tg)) Q' E' s := by
    intro Q' E' hq
    unfold reGroupNumber
    refine wpAny_bind (wpAny_pure ?_)
    refine wpAny_bind (m := asIndex (.int g tg)) ?_
    refine wpAny_bind (wpAny_pure (wpAny_pure ?_))
    show wpAny _ _ (if (decide (g < 0) || decide (2 * g ≥ (S.size : Int))) = true then _ else _) _ _ _
    rw [hc, if_neg (by decide)]
    exact wpAny_pure hq
  refine wpAny_bind (num _ _ ?_)
  unfold reGroupText
  dsimp only
  rcases h3 with h3 | h3
  · rw [h3, if_pos (by rw [Bool.or_eq_true_iff]; exact .inl (by decide))]
    exact wpAny_bind (wpAny_pure (wpAny_pure ⟨_, rfl, h2 h3⟩))
  · obtain ⟨b, eb⟩ := Int.eq_ofNat_of_zero_le h3.1
    obtain ⟨e, ee⟩ := Int.eq_ofNat_of_zero_le h3.2
    rw [eb, ee, if_neg (by simp)]
    refine wpAny_bind (wpAny_bind (wpAny_pure ?_))
    show wpAny _ _ (mkStr ⟨x.cps.extract b e⟩) _ _ _
    have hz : (x.cps.extract b e).size ≤ sizeLine := by
      rw [Array.size_extract]
      omega
    exact wpAny_mkStr (wpAny_pure ⟨_, rfl, h1 b e eb ee⟩) hz
end

end
section

/-! ## offset_from_tz_string -/
theorem pat_plain : PlainAttrs "re.Pattern" := ⟨⟨"object.__getattribute__", by rw [typeLookup_type, builtinLookup_eq_fast]; kernel_rfl, by decide +kernel⟩, by rw [typeLookup_type, builtinLookup_eq_fast]; kernel_rfl⟩
theorem mat_plain : PlainAttrs "re.Match" := ⟨⟨"object.__getattribute__", by rw [typeLookup_type, builtinLookup_eq_fast]; kernel_rfl, by decide +kernel⟩, by rw [typeLookup_type, builtinLookup_eq_fast]; kernel_rfl⟩
theorem pat_tyM : typeOf (.builtin "re.Pattern.search") = pure (.type "method_descriptor") := by kernel_rfl
theorem grp_tyM : typeOf (.builtin "re.Match.group") = pure (.type "method_descriptor") := by kernel_rfl
theorem pat_method {w : World} {prog : Program} {A : Around} {E : Value → Shared → Prop} {s : Shared} {h₀ : Heap} {L : Addr} {m : Str → Option Value} {pl : Sem Bool} {Q : Value × List Value → Shared → Prop} (F : Fr h₀ L s.heap m) (X : (K w.params).In h₀)
    (h : Q (.builtin "re.Pattern.search", [.ref 50]) s) : wpAny (model prog w) A (getMethod (.ref 50) "search" pl) Q E s :=
  getMethod_builtin (T := "re.Pattern") ⟨_, (X.keeps F.keep) 50 _ rfl, rfl⟩ pat_plain pat_slot pat_tyM (fun a e => by cases e; exact ⟨_, (X.keeps F.keep) 50 _ rfl, rfl⟩) h
theorem mat_method {w : World} {prog : Program} {A : Around} {E : Value → Shared → Prop} {s : Shared} {h₀ : Heap} {L mo T : Addr} {v : Value} {n : Nat} {news : Led} {pl : Sem Bool} {Q : Value × List Value → Shared → Prop} (N : News h₀ L s.heap news) (hm : (mo, matchO v n T) ∈ news)
    (h : Q (.builtin "re.Match.group", [.ref mo]) s) : wpAny (model prog w) A (getMethod (.ref mo) "group" pl) Q E s :=
  getMethod_builtin (T := "re.Match") ⟨_, (N _ hm).1, rfl⟩ mat_plain grp_slot grp_tyM (fun a e => by cases e; exact ⟨_, (N _ hm).1, rfl⟩) h
theorem pat_ok (v : Value) : argsOk "re.Pattern.search" ⟨[.ref 50, v], []⟩ := by unfold argsOk; kernel_rfl
theorem grp_ok (a v : Value) : argsOk "re.Match.group" ⟨[a, v], []⟩ := by unfold argsOk; kernel_rfl
theorem mat_noBool : typeLookup (.type "re.Match") "__bool__" = pure none := by rw [typeLookup_type, builtinLookup_eq_fast]; kernel_rfl
theorem mat_noLen : typeLookup (.type "re.Match") "__len__" = pure none := by rw [typeLookup_type, builtinLookup_eq_fast]; kernel_rfl
theorem mat_truthy {prog : Program} {w : World} {A : Around} {E : Value → Shared → Prop} {s : Shared} {a T : Addr} {v : Value} {n : Nat} {Q : Bool → Shared → Prop} (ho : s.heap.get? a = some (matchO v n T))
    (h : Q true s) : wpAny (model prog w) A (truthy (.ref a)) Q E s := by
  have hT : s.TypeIs (.ref a) "re.Match" := ⟨_, ho, rfl⟩
  unfold truthy
  first
    | refine wpAny_bind (wpAny_callSpecial?_none (name := Str.ofString "__bool__") hT mat_noBool ?_)
    | refine wpAny_bind (wpAny_pure (wpAny_bind (wpAny_callSpecial?_none (name := Str.ofString "__bool__") hT mat_noBool ?_)))
  first
    | refine wpAny_bind (wpAny_specialOf (name := Str.ofString "__len__") hT mat_noLen ?_)
    | refine wpAny_bind (wpAny_pure (wpAny_bind (wpAny_specialOf (name := Str.ofString "__len__") hT mat_noLen ?_)))
  first
    | exact wpAny_pure h
    | exact wpAny_bind (wpAny_pure (wpAny_pure h))
open PySem.Builtin.Re
def spanAt (n : Nat) (marks : List (Option Nat)) (i : Nat) : Int := ((rawInt 0 :: rawInt n :: spansOf marks).toArray.map reRawOf).getD i (-1)
def GroupS (x : Str) (n : Nat) (marks : List (Option Nat)) (g : Nat) (y : Str) : Prop := ∃ b e : Nat, spanAt n marks (2 * g) = b ∧ spanAt n marks (2 * g + 1) = e ∧ (⟨x.cps.extract b e⟩ : Str) = y
def GroupN (n : Nat) (marks : List (Option Nat)) (g : Nat) : Prop := spanAt n marks (2 * g) = -1
theorem groupS {prog : Program} {w : World} {A : Around} {E : Value → Shared → Prop} {s : Shared} {h₀ : Heap} {L mo T : Addr} {news : Led} {x y : Str} {t tg : Tok} {n g : Nat} {marks : List (Option Nat)} {Q : Value → Shared → Prop} (N : News h₀ L s.heap news)
    (h1 : (mo, matchO (.str x t) n T) ∈ news) (h2 : (T, spanO n (spansOf marks)) ∈ news) (hx : x.length < 10) (hl : (spansOf marks).length = 6) (hg : g < 4) (G : GroupS x n marks g y)
    (h : Q (.str y s.toks) { s with toks := s.toks + 1 }) : wpAny (model prog w) A (call (.builtin "re.Match.group") [.ref mo, .int (g : Int) tg]) Q E s := by
  obtain ⟨b, e, e1, e2, rfl⟩ := G
  refine groupK (N _ h1).1 (N _ h2).1 (Nat.le_trans (Nat.le_of_lt hx) (by decide)) (grp_ok _ _) (by omega) ?_ ?_ ?_ ?_
  · simp [hl]; omega
  · intro b' e' f1 f2
    have f1 : spanAt n marks (2 * g) = b' := f1
    have f2 : spanAt n marks (2 * g + 1) = e' := f2
    rw [e1] at f1
    rw [e2] at f2
    have f1 := Int.ofNat.inj f1
    have f2 := Int.ofNat.inj f2
    subst f1 f2
    exact h
  · intro f
    have f : spanAt n marks (2 * g) = -1 := f
    rw [e1] at f
    exact absurd f (by omega)
  · refine .inr ⟨?_, ?_⟩
    · show 0 ≤ spanAt n marks (2 * g)
      omega
    · show 0 ≤ spanAt n marks (2 * g + 1)
      omega
theorem groupN {prog : Program} {w : World} {A : Around} {E : Value → Shared → Prop} {s : Shared} {h₀ : Heap} {L mo T : Addr} {news : Led} {x : Str} {t tg : Tok} {n g : Nat} {marks : List (Option Nat)} {Q : Value → Shared → Prop} (N : News h₀ L s.heap news)
    (h1 : (mo, matchO (.str x t) n T) ∈ news) (h2 : (T, spanO n (spansOf marks)) ∈ news) (hx : x.length < 10) (hl : (spansOf marks).length = 6) (hg : g < 4) (G : GroupN n marks g)
    (h : Q .none s) : wpAny (model prog w) A (call (.builtin "re.Match.group") [.ref mo, .int (g : Int) tg]) Q E s := by
  have G : spanAt n marks (2 * g) = -1 := G
  refine groupK (N _ h1).1 (N _ h2).1 (Nat.le_trans (Nat.le_of_lt hx) (by decide)) (grp_ok _ _) (by omega) ?_ ?_ ?_ ?_
  · simp [hl]; omega
  · intro b' e' f1 f2
    have f1 : spanAt n marks (2 * g) = b' := f1
    rw [G] at f1
    exact absurd f1 (by omega)
  · exact fun _ => h
  · exact .inl G
example {M : Model} {A : Around} {E : Value → Shared → Prop} {s : Shared} {env : Env} {Q : Flow → Shared → Prop} (h : Q .next s) : wpAny M A (execs [] env) Q E s := by
  walk1
  exact h
section
local macro_rules | `(tactic| walk_at "ite") => `(tactic| first | refine ite_bT (by decide) ?_ | refine ite_bF (by decide) ?_ | refine ite_bT (by assumption) ?_ | refine ite_bF (by assumption) ?_)
local macro_rules | `(tactic| walk_at "getMethod ref") => `(tactic| (k_here; (with_reducible show wpAny _ _ (getMethod (Value.ref 50) _ _) _ _ _); k_dflt (refine' pat_method ?F ?X ?_; (case F => k_asm); (case X => k_asm))))
local macro_rules | `(tactic| walk_at "getMethod ref") => `(tactic| (k_here; (with_reducible show wpAny _ _ (getMethod (Value.ref _) (Str.ofString "group") _) _ _ _); k_dflt (refine' mat_method ?N ?m ?_; (case N => k_asm); (case m => k_mem))))
local macro_rules | `(tactic| walk_at "truthy ref") => `(tactic| (k_here; refine' mat_truthy ?h ?_; (case h => exact News.get (by k_asm) (by k_mem))))
theorem offsetN (w : World) (x x2 x3 : Str) (t : Tok) (n : Nat) (marks : List (Option Nat)) (v2 v3 : Int)
    (hz : (decide (x = ⟨#[71, 77, 84]⟩) || (decide (x = ⟨#[85, 84, 67]⟩) || (decide (x = ⟨#[85, 84]⟩) || (decide (x = ⟨#[90]⟩) || false)))) = false)
    (hT : ∀ h : Heap, (K w.params).In h → Looks (model PySem.Challenge.pw_oc0295_01 w) h (reTarget "re.Pattern.search" "search" ⟨[.ref 50, .str x t], []⟩) ⟨.ref 50, .str x t, tzc, x.cps, 0, 3, 0, n⟩)
    (hm : hit ((Sre.forSearch tzc x.cps 3 0 n false).runFor 32) marks n = true)
    (hs : marks = [none, none, some 0, some 2, some 2, some 4] ∨ marks = [none, none, some 0, some 2, some 3, some 5] ∨ marks = [some 0, some 1, some 1, some 3, some 3, some 5])
    (hx : x.length < 10) (hl : (spansOf marks).length = 6) (G1 : GroupN n marks 1) (G2 : GroupS x n marks 2 x2) (G3 : GroupS x n marks 3 x3)
    (h2 : PySem.intText? x2 = some v2) (h3 : PySem.intText? x3 = some v3) (l2 : x2.length = 2) (l3 : x3.length = 2) (a2 : 0 ≤ v2) (a3 : 0 ≤ v3) (b2 : v2 < 100) (b3 : v3 < 100) (news : Led) :
    Claim w 10 60 57 news [.str x t] (fun v l => (∃ t, v = .int (3600 * v2 + 60 * v3) t) ∧ l = news) := by
  intro p loose mean mg mb dp un gd cn cs a ccd cl outer A₀ base h₀ L m s Q E B F X N T hk hdp hun hret
  refine wpAny_call ?_
  k_enter
  repeat' (first | (k_here; (with_reducible show wpAny _ _ (call (Value.builtin "re.Match.group") _) _ _ _); first | k_dflt (refine' groupS (g := 2) ?k1 ?k2 ?k3 ?k4 ?k5 ?k6 ?k7 ?_; (case k1 => k_asm); (case k2 => k_mem); (case k3 => k_mem); (case k4 => assumption); (case k5 => assumption); (case k6 => decide); (case k7 => assumption)) | k_dflt (refine' groupS (g := 3) ?k1 ?k2 ?k3 ?k4 ?k5 ?k6 ?k7 ?_; (case k1 => k_asm); (case k2 => k_mem); (case k3 => k_mem); (case k4 => assumption); (case k5 => assumption); (case k6 => decide); (case k7 => assumption)) | k_dflt (refine' groupS (g := 1) ?k1 ?k2 ?k3 ?k4 ?k5 ?k6 ?k7 ?_; (case k1 => k_asm); (case k2 => k_mem); (case k3 => k_mem); (case k4 => assumption); (case k5 => assumption); (case k6 => decide); (case k7 => assumption)) | k_dflt (refine' groupN (g := 1) ?k1 ?k2 ?k3 ?k4 ?k5 ?k6 ?k7 ?_; (case k1 => k_asm); (case k2 => k_mem); (case k3 => k_mem); (case k4 => assumption); (case k5 => assumption); (case k6 => decide); (case k7 => assumption))) | (k_here; (with_reducible show wpAny _ _ (call (Value.builtin "re.Pattern.search") _) _ _ _); k_dflt (refine' searchK ?k1 ?k2 ?k3 ?k4 ?k5 ?k6 ?k7 ?_; (case k1 => k_asm); (case k2 => k_asm); (case k3 => k_asm); (case k4 => (rename ∀ h : Heap, (K _).In h → Looks _ h _ _ => hT'; exact hT' _ (Frag.In.keeps (by assumption) (Fr.keep (by assumption))))); (case k5 => exact pat_ok _); (case k6 => assumption); (case k7 => assumption)); intro mo' T' h' F' N' l1 l2) | (k_unfold; (try dsimp only)) | walk1 | (dsimp only; walk1) | (leave1; (try dsimp only)))
  · exact hret _ _ _ _ ⟨⟨_, rfl⟩, rfl⟩ (by assumption) (news_sub (by assumption) fun q hq => .tail _ (.tail _ hq))
  · exfalso; rename (x3.length : Int) = 0 => e0; omega
theorem offsetS (w : World) (x x1 x2 x3 : Str) (t : Tok) (n : Nat) (marks : List (Option Nat)) (v2 v3 : Int)
    (hz : (decide (x = ⟨#[71, 77, 84]⟩) || (decide (x = ⟨#[85, 84, 67]⟩) || (decide (x = ⟨#[85, 84]⟩) || (decide (x = ⟨#[90]⟩) || false)))) = false)
    (hT : ∀ h : Heap, (K w.params).In h → Looks (model PySem.Challenge.pw_oc0295_01 w) h (reTarget "re.Pattern.search" "search" ⟨[.ref 50, .str x t], []⟩) ⟨.ref 50, .str x t, tzc, x.cps, 0, 3, 0, n⟩)
    (hm : hit ((Sre.forSearch tzc x.cps 3 0 n false).runFor 32) marks n = true)
    (hs : marks = [none, none, some 0, some 2, some 2, some 4] ∨ marks = [none, none, some 0, some 2, some 3, some 5] ∨ marks = [some 0, some 1, some 1, some 3, some 3, some 5])
    (hx : x.length < 10) (hl : (spansOf marks).length = 6) (G1 : GroupS x n marks 1 x1) (G2 : GroupS x n marks 2 x2) (G3 : GroupS x n marks 3 x3)
    (h2 : PySem.intText? x2 = some v2) (h3 : PySem.intText? x3 = some v3) (l2 : x2.length = 2) (l3 : x3.length = 2) (a2 : 0 ≤ v2) (a3 : 0 ≤ v3) (b2 : v2 < 100) (b3 : v3 < 100) (news : Led) :
    Claim w 10 60 57 news [.str x t] (fun v l => (∃ t, v = .int (if x1 = Str.ofString "-" then -(3600 * v2 + 60 * v3) else 3600 * v2 + 60 * v3) t) ∧ l = news) := by
  have l3' : ¬ (x3.length : Int) = 0 := by omega
  intro p loose mean mg mb dp un gd cn cs a ccd cl outer A₀ base h₀ L m s Q E B F X N T hk hdp hun hret
  refine wpAny_call ?_
  k_enter
  repeat' (first | (k_here; (with_reducible show wpAny _ _ (call (Value.builtin "re.Match.group") _) _ _ _); first | k_dflt (refine' groupS (g := 2) ?k1 ?k2 ?k3 ?k4 ?k5 ?k6 ?k7 ?_; (case k1 => k_asm); (case k2 => k_mem); (case k3 => k_mem); (case k4 => assumption); (case k5 => assumption); (case k6 => decide); (case k7 => assumption)) | k_dflt (refine' groupS (g := 3) ?k1 ?k2 ?k3 ?k4 ?k5 ?k6 ?k7 ?_; (case k1 => k_asm); (case k2 => k_mem); (case k3 => k_mem); (case k4 => assumption); (case k5 => assumption); (case k6 => decide); (case k7 => assumption)) | k_dflt (refine' groupS (g := 1) ?k1 ?k2 ?k3 ?k4 ?k5 ?k6 ?k7 ?_; (case k1 => k_asm); (case k2 => k_mem); (case k3 => k_mem); (case k4 => assumption); (case k5 => assumption); (case k6 => decide); (case k7 => assumption)) | k_dflt (refine' groupN (g := 1) ?k1 ?k2 ?k3 ?k4 ?k5 ?k6 ?k7 ?_; (case k1 => k_asm); (case k2 => k_mem); (case k3 => k_mem); (case k4 => assumption); (case k5 => assumption); (case k6 => decide); (case k7 => assumption))) | (k_here; (with_reducible show wpAny _ _ (call (Value.builtin "re.Pattern.search") _) _ _ _); k_dflt (refine' searchK ?k1 ?k2 ?k3 ?k4 ?k5 ?k6 ?k7 ?_; (case k1 => k_asm); (case k2 => k_asm); (case k3 => k_asm); (case k4 => (rename ∀ h : Heap, (K _).In h → Looks _ h _ _ => hT'; exact hT' _ (Frag.In.keeps (by assumption) (Fr.keep (by assumption))))); (case k5 => exact pat_ok _); (case k6 => assumption); (case k7 => assumption)); intro mo' T' h' F' N' l1 l2) | (k_unfold; (try dsimp only)) | walk1 | (dsimp only; walk1) | (leave1; (try dsimp only)))
  · rename (x1 == Str.ofString "-") = true => e1
    exact hret _ _ _ _ ⟨⟨_, congrArg (Value.int · _) (if_pos (eq_of_beq e1)).symm⟩, rfl⟩ (by assumption) (news_sub (by assumption) fun q hq => .tail _ (.tail _ hq))
  · rename (x1 == Str.ofString "-") = false => e1
    exact hret _ _ _ _ ⟨⟨_, congrArg (Value.int · _) (if_neg (beq_eq_false_iff_ne.mp e1)).symm⟩, rfl⟩ (by assumption) (news_sub (by assumption) fun q hq => .tail _ (.tail _ hq))
  · exfalso; rename (x3.length : Int) = 0 => e0; omega
  · exfalso; rename (x3.length : Int) = 0 => e0; omega
end
theorem two_digs {a b : Nat} (ha : a < 8) (hb : b < 8) : PySem.intText? (strL [48 + a, 48 + b]) = some (10 * a + b : Int) := by
  rw [intText_digits (x := strL [48 + a, 48 + b])]
  · simp only [strL_cps, PySem.NumText.digitsVal, List.foldl]
    congr 1
    omega
  · rw [strL_cps]
    intro c hc
    simp only [List.mem_cons, List.not_mem_nil, or_false] at hc
    omega
  · rw [strL_cps]; simp
  · show (2 : Nat) ≤ 4300
    decide
theorem not_zone {x : Str} (h : 4 ≤ x.cps.size) : (decide (x = ⟨#[71, 77, 84]⟩) || (decide (x = ⟨#[85, 84, 67]⟩) || (decide (x = ⟨#[85, 84]⟩) || (decide (x = ⟨#[90]⟩) || false)))) = false := by
  have k : ∀ y : Str, y.cps.size < 4 → decide (x = y) = false := fun y hy => decide_eq_false fun e => by rw [e] at h; omega
  rw [k _ (by decide), k _ (by decide), k _ (by decide), k _ (by decide)]
  rfl
def offV (d0 d1 d2 d3 : Nat) : Nat → Int
  | 0 | 1 | 2 => 3600 * (10 * d0 + d1) + 60 * (10 * d2 + d3)
  | _ => -(3600 * (10 * d0 + d1) + 60 * (10 * d2 + d3))
theorem offsetK (w : World) (d0 d1 d2 d3 look : Nat) (h0 : d0 < 8) (h1 : d1 < 8) (h2 : d2 < 8) (h3 : d3 < 8) (hlook : look < 4) (t : Tok) (news : Led) :
    Claim w 10 60 57 news [.str (strL (clkL d0 d1 d2 d3 look)) t] (fun v l => (∃ t, v = .int (offV d0 d1 d2 d3 look) t) ∧ l = news) := by
  have i2 := two_digs h0 h1
  have i3 := two_digs h2 h3
  have hlk : look = 0 ∨ look = 1 ∨ look = 2 ∨ look = 3 := by omega
  rcases hlk with rfl | rfl | rfl | rfl
  · exact offsetN w (strL [48 + d0, 48 + d1, 48 + d2, 48 + d3]) _ _ t 4 _ _ _ (not_zone (by show 4 ≤ _; simp [strL])) (fun h X => target4 X _ _ _ _ t) (run4 h0 h1 h2 h3) (.inl rfl) (by show (4 : Nat) < 10; decide) rfl (by unfold GroupN; decide +kernel) ⟨0, 2, by decide +kernel, by decide +kernel, rfl⟩ ⟨2, 4, by decide +kernel, by decide +kernel, rfl⟩ i2 i3 rfl rfl (by omega) (by omega) (by omega) (by omega) news
  · exact offsetS w (strL [43, 48 + d0, 48 + d1, 48 + d2, 48 + d3]) (strL [43]) _ _ t 5 _ _ _ (not_zone (by show 4 ≤ _; simp [strL])) (fun h X => target5 X _ _ _ _ _ t) (runP h0 h1 h2 h3) (.inr (.inr rfl)) (by show (5 : Nat) < 10; decide) rfl ⟨0, 1, by decide +kernel, by decide +kernel, rfl⟩ ⟨1, 3, by decide +kernel, by decide +kernel, rfl⟩ ⟨3, 5, by decide +kernel, by decide +kernel, rfl⟩ i2 i3 rfl rfl (by omega) (by omega) (by omega) (by omega) news
  · exact offsetN w (strL [48 + d0, 48 + d1, 58, 48 + d2, 48 + d3]) _ _ t 5 _ _ _ (not_zone (by show 4 ≤ _; simp [strL])) (fun h X => target5 X _ _ _ _ _ t) (runC h0 h1 h2 h3) (.inr (.inl rfl)) (by show (5 : Nat) < 10; decide) rfl (by unfold GroupN; decide +kernel) ⟨0, 2, by decide +kernel, by decide +kernel, rfl⟩ ⟨3, 5, by decide +kernel, by decide +kernel, rfl⟩ i2 i3 rfl rfl (by omega) (by omega) (by omega) (by omega) news
  · exact offsetS w (strL [45, 48 + d0, 48 + d1, 48 + d2, 48 + d3]) (strL [45]) _ _ t 5 _ _ _ (not_zone (by show 4 ≤ _; simp [strL])) (fun h X => target5 X _ _ _ _ _ t) (runM h0 h1 h2 h3) (.inr (.inr rfl)) (by show (5 : Nat) < 10; decide) rfl ⟨0, 1, by decide +kernel, by decide +kernel, rfl⟩ ⟨1, 3, by decide +kernel, by decide +kernel, rfl⟩ ⟨3, 5, by decide +kernel, by decide +kernel, rfl⟩ i2 i3 rfl rfl (by omega) (by omega) (by omega) (by omega) news

end
section

/-! ## quote: none of a clock's signs is unsafe -/
open PySem.Sre (M)
open PySem.Builtin.Re
def qc : Array Nat := #[14, 17, 4, 1, 1, 21, 9, 0, 604043296, 1, 0, 0, 0, 0, 0, 8, 4, 0, 13, 14, 21, 9, 0, 604043296, 1, 0, 0, 0, 0, 0, 8, 4, 0, 1]
theorem q_in {c : Nat} (h : clk c = true) (seen : Sre.Seen) : ∃ seen', Sre.inSet qc c qc.size 5 true seen = .ok (false, seen') := by
  rcases clk_cases h with rfl | rfl | rfl | rfl | rfl | rfl | rfl | rfl | rfl | rfl | rfl | rfl | rfl <;> exact ⟨_, rfl⟩
theorem q_adm {m : M} (hc : m.code = qc) (ht : ∀ p, p < m.lim → clk (m.text.getD p 0) = true) : ∀ (fuel s : Nat) (seen : Sre.Seen), ∃ seen', M.admitted m fuel s seen = .ok (none, seen')
  | 0, _, _ => ⟨_, rfl⟩
  | fuel + 1, s, seen => by
    unfold M.admitted
    by_cases hs : s ≥ m.lim
    · rw [if_pos hs]; exact ⟨_, rfl⟩
    · rw [if_neg hs, hc]
      obtain ⟨seen', e⟩ := q_in (ht s (by omega)) seen
      rw [e]
      exact q_adm hc ht fuel (s + 1) seen'
theorem q_att {m : M} (hc : m.code = qc) (hf : m.frames = []) (ho : m.outcome = none) (ht : ∀ p, p < m.lim → clk (m.text.getD p 0) = true) (s : Nat) (b : Bool) : ((m.attemptFrom s b).runFor 4).outcome = some .failed := by
  obtain ⟨seen', e⟩ := q_adm hc ht (m.lim + 1 - s) s m.seen
  have h1 : m.hasFirstSet = true := by unfold M.hasFirstSet; rw [hc]; decide +kernel
  have h2 : m.attemptFrom s b = ({ m with seen := seen' } : M).say false := by
    unfold M.attemptFrom
    rw [h1, e]
    rfl
  rw [h2]
  obtain ⟨code, text, lim, start, lastStart, wholeText, mustAdvance, pc, pos, handed, outermost, marks, lastmark, lastindex, loops, inner, frames, weight, answer, seen, outcome⟩ := m
  simp only at hf ho
  subst hf ho
  rfl
theorem q_run {text : Array Nat} {n : Nat} (hn : 1 ≤ n) (ht : ∀ p, p < n → clk (text.getD p 0) = true) : ((Sre.forSearch qc text 0 0 n false).runFor 4).outcome = some .failed := by
  unfold Sre.forSearch
  have h0 : (Sre.header qc).1 = 1 := by decide +kernel
  dsimp only
  rw [h0, if_neg (by simp; omega)]
  exact q_att rfl rfl rfl ht 0 true
section
variable {prog : Program} {w : World} {A : Around} {E : Value → Shared → Prop} {s : Shared}
theorem toEnd_miss {m : M} {Q : Option M → Shared → Prop} (h : (m.runFor 4).outcome = some .failed) (hq : Q none s) : wpAny (model prog w) A (reRunToEnd m) Q E s := by
  unfold reRunToEnd
  refine wpAny_bind (drive 1 (2 ^ 64) (by decide) (by show (m.runFor 4).outcome.isSome = true; rw [h]; rfl) ?_)
  refine wpAny_bind (saidAll _ ?_)
  show wpAny (model prog w) A (match (m.runFor 4).outcome with | some .matched => pure (some (m.runFor 4)) | some .failed => pure none | some (.stuck why) => _ | none => _) Q E s
  rw [h]
  exact wpAny_pure hq
theorem q_target4 {h : Heap} (X : (K w.params).In h) (a b c d : Nat) (t : Tok) :
    Looks (model prog w) h (reTarget "re.Pattern.search" "search" ⟨[.ref 62, .str ⟨#[a, b, c, d]⟩ t], []⟩) ⟨.ref 62, .str ⟨#[a, b, c, d]⟩ t, qc, #[a, b, c, d], 0, 0, 0, 4⟩ := Looks.of_peek X (by kernel_rfl)
theorem q_target5 {h : Heap} (X : (K w.params).In h) (a b c d e : Nat) (t : Tok) :
    Looks (model prog w) h (reTarget "re.Pattern.search" "search" ⟨[.ref 62, .str ⟨#[a, b, c, d, e]⟩ t], []⟩) ⟨.ref 62, .str ⟨#[a, b, c, d, e]⟩ t, qc, #[a, b, c, d, e], 0, 0, 0, 5⟩ := Looks.of_peek X (by kernel_rfl)
theorem q_plain : plainId "re.Pattern.search" = true := by decide +kernel
theorem q_bound {h : Heap} (X : (K w.params).In h) (x : Str) (t : Tok) : Looks (model prog w) h (checkBoundCall "re.Pattern.search" ⟨[.ref 62, .str x t], []⟩) () := Looks.of_peek X (by kernel_rfl)
@[reducible] def findO : Obj := ⟨.type "builtin_function_or_method", none, .fields #[.builtin "re.Pattern.search", .ref 62], #[]⟩
theorem find_at {h : Heap} (X : (K w.params).In h) : h.get? 765 = some findO := X 765 _ rfl
theorem findK {x : Str} {t : Tok} {n : Nat} {Q : Value → Shared → Prop} (X : (K w.params).In s.heap) (hn : 1 ≤ n) (ht : ∀ p, p < n → clk (x.cps.getD p 0) = true)
    (hT : Looks (model prog w) s.heap (reTarget "re.Pattern.search" "search" ⟨[.ref 62, .str x t], []⟩) ⟨.ref 62, .str x t, qc, x.cps, 0, 0, 0, n⟩)
    (h : Q .none s) : wpAny (model prog w) A (call (.ref 765) [.str x t]) Q E s := by
  refine wpAny_call ?_
  refine codeAny_of_tree ?_
  show wpAny _ A.in1 (callAny (.ref 765) ⟨[.str x t], []⟩) _ _ s
  unfold callAny
  refine wpAny_bind (wpAny_load (find_at X) ?_)
  show wpAny _ _ (checkBoundCall "re.Pattern.search" ⟨[.ref 62, .str x t], []⟩ >>= fun _ => again (.builtin "re.Pattern.search" ⟨[.ref 62, .str x t], []⟩)) _ _ _
  refine wpAny_bind ((q_bound X x t).here (wpAny_pure ⟨plainId_quiet q_plain _, codeAny_builtin pat_entry ?_⟩))
  rw [Around.under_plainId q_plain _]
  unfold Builtin.«re.Pattern.search»
  refine wpAny_bind (hT.here ?_)
  unfold reAnswer
  exact wpAny_bind (toEnd_miss (q_run hn ht) (wpAny_pure h))
theorem callWith_find {pos : Pos} {first : List Value} {args : List (Bool × Sem Value)} {Q : Value → Shared → Prop} (hplain : args.any (·.1) = false)
    (h : wpAny (model prog w) A (evalArgs (.ref 765) true args []) (fun x s₁ => (K w.params).In s₁.heap ∧ wpAny (model prog w) A (call (.ref 765) (first ++ x.pos) x.kw) Q E s₁) E s) : wpAny (model prog w) A (callWith pos (.ref 765) first args []) Q E s := by
  unfold callWith
  refine wpAny_bind (wpAny_holding (wpAny_mono h (fun x s₁ h₁ => wpAny_bind (wpAny_standAt ?_)) fun _ _ x => x))
  obtain ⟨X, hcall⟩ := h₁
  simp only [hplain, List.any_nil, Bool.or_false]
  refine wpAny_bind (m := keeperOf (.ref 765)) ?_
  unfold keeperOf
  refine wpAny_bind (wpAny_load (find_at X) ?_)
  show wpAny _ _ (pure Keeper.machine) _ _ _
  refine wpAny_pure ?_
  exact wpAny_bind (wpAny_mono hcall (fun r s₂ hr => wpAny_bind (wpAny_holding (wpAny_point (wpAny_pure hr)))) fun _ _ x => x)
theorem callWith_find1 {pos : Pos} {first : List Value} {env : Env} {e : Expr} {rest : List Expr} {Q : Value → Shared → Prop}
    (h : wpAny (model prog w) A (spliced (backTo pos (starEach (e :: rest) env))) (fun vs s₁ => (K w.params).In s₁.heap ∧ wpAny (model prog w) A (call (.ref 765) (first ++ vs)) Q E s₁) E s)
    (he : starEach (e :: rest) env = (false, eval e env) :: starEach rest env := by rfl) (hplain : (backTo pos (starEach rest env)).any (·.1) = false := by rfl) :
    wpAny (model prog w) A (callWith pos (.ref 765) first (backTo pos (starEach (e :: rest) env)) []) Q E s := by
  rw [he] at h ⊢
  refine callWith_find (by show (false || (backTo pos (starEach rest env)).any (·.1)) = false; rw [hplain]; rfl) ?_
  exact evalArgs_plain h
end

end
section

open PySem.Builtin.Re
/-! ## join_shlex: a generator expression; the code that it makes is put down in the table of join's code -/
section
variable {prog : Program} {w : World} {A : Around} {s : Shared} {K : Frag}
    {R : Result → Shared → Prop} {name qual : Str} {params : Arguments} {body : List Stmt} {scope : Scope} {dV kV doc pm cdv ct oc : Value} {an od : Option Addr} {osl : Array (Option Value)} {f : Addr} {args : Args} {binds : List (Str × Value)}
theorem code_defJ (X : K.In s.heap) (hl : s.heap.NoLimit)
    (ho : K.lookup f = some ⟨oc, od, .func (fnOf name qual params body scope dV kV doc pm an cdv ct), osl⟩) (hcd : codeIn K cdv qual = true) (hroom : A.depth < recursionLimit)
    (hbind : BindsTo s (fnOf name qual params body scope dV kV doc pm an cdv ct) args binds) (hloc : ∀ y ∈ binds, scope.names.lookup y.1 = some .local)
    (h : ∀ h₁, Fr s.heap s.heap.objs.size h₁ (fun y => binds.reverse.lookup y) →
      wpAny (model prog w) (A.deeper (envOf qual scope s.heap.objs.size f cdv)) (execs body (envOf qual scope s.heap.objs.size f cdv))
        (fun fl s' => R (.ok (.ret (match fl with | .ret v => v | _ => .none))) s')
        (fun e s' => wpAny (model prog w) (A.deeper (envOf qual scope s.heap.objs.size f cdv)) (leaving (envOf qual scope s.heap.objs.size f cdv) e) (fun _ s'' => R (.error e) s'') (fun e' s'' => R (.error e') s'') s')
        { s with heap := h₁, toks := s.toks + binds.length })
    (hco : scope.isCoroutine = false) (hgen : scope.isGenerator = false) (hk : scope.kind = .function)
    (hcell : ∀ x ∈ scope.names, x.2 ≠ .cell) : codeAny (model prog w) A (.call (.ref f) args) R s := by
  refine codeAny_call_def (fd := fnOf name qual params body scope dV kV doc pm an cdv ct) (body := body) (binds := binds) hroom (X _ _ ho) rfl hl (codeRec_of X hcd) rfl hbind hcell hloc (fun h₁ hns hk₁ => ?_) hco hgen hk
  exact h h₁ ⟨hns, hk₁, Nat.le_refl _⟩
end
example {M : Model} {A : Around} {E : Value → Shared → Prop} {s : Shared} {env : Env} {Q : Flow → Shared → Prop} (h : Q .next s) : wpAny M A (execs [] env) Q E s := by
  walk1
  exact h
section
local macro_rules | `(tactic| walk_at "ite") => `(tactic| first | refine ite_bT (by decide) ?_ | refine ite_bF (by decide) ?_ | refine ite_bT (by assumption) ?_ | refine ite_bF (by assumption) ?_)
local macro_rules | `(tactic| walk_at "callWith ref") => `(tactic| (k_here; (with_reducible show wpAny _ _ (callWith _ (Value.ref 765) _ (backTo _ (starEach (_ :: _) _)) []) _ _ _); k_dflt (refine' callWith_find1 ?_; k_whole)))
theorem quoteP {w : World} {x : Str} {t : Tok} {n : Nat} (hn : 1 ≤ n) (ht : ∀ p, p < n → clk (x.cps.getD p 0) = true) (hl : ¬ (x.length : Int) = 0) (hb : x.length < 10)
    (hT : ∀ h : Heap, (K w.params).In h → Looks (model PySem.Challenge.pw_oc0295_01 w) h (reTarget "re.Pattern.search" "search" ⟨[.ref 62, .str x t], []⟩) ⟨.ref 62, .str x t, qc, x.cps, 0, 0, 0, n⟩)
    {p : Program} {loose : List Str} {mg mb : Str → Option Value} {A : Around} {s : Shared} {Q E : Value → Shared → Prop} (X : (K w.params).In s.heap) (T : TopRead p loose mg mb s.heap)
    (hd : A.depth + 5 < recursionLimit) (hu : A.units + 40 < cLine) (hret : ∀ h' tk', (∀ b o, s.heap.get? b = some o → h'.get? b = some o) → Q (.str x t) { s with heap := h', toks := tk' }) :
    wpAny (model PySem.Challenge.pw_oc0295_01 w) A (call (.ref 772) [.str x t]) Q E s := by
  refine wpAny_call ?_
  refine' code_defJ ?k1 ?k2 ?k6 ?k7 ?k8 ?k9 ?kB ?_ ?c2 ?c3 ?c4 ?c5; (case k1 => exact X); (case k2 => exact T.nolimit); (case k6 => k_is); (case k7 => k_is); (case k8 => omega); (case k9 => first | exact BindsTo.of_eq rfl | exact binds_K (by k_in) rfl (by k_is) rfl rfl rfl); (case c5 => decide); (case kB => exact locs rfl); (case c2 => exact rfl); (case c3 => exact rfl); (case c4 => exact rfl)
  have hdA : ∀ env : Env, (A.deeper env).depth = A.depth + 1 := fun env => rfl
  intro h' F'
  have N' : News s.heap s.heap.objs.size h' [] := fun p hp => nomatch hp
  generalize s.heap.objs.size = L' at F' N' ⊢
  try dsimp only
  try k_fold
  repeat' (first | (k_here; (with_reducible show wpAny _ _ (call (Value.ref 765) _) _ _ _); k_dflt (refine' findK ?k1 ?k2 ?k3 ?k4 ?_; (case k1 => exact Frag.In.keeps (by assumption) (Fr.keep (by assumption))); (case k2 => assumption); (case k3 => assumption); (case k4 => (rename ∀ h : Heap, (K _).In h → Looks _ h _ _ => hT'; exact hT' _ (Frag.In.keeps (by assumption) (Fr.keep (by assumption))))))) | (k_unfold; (try dsimp only)) | walk1 | (dsimp only; walk1) | (leave1; (try dsimp only)))
  · exact hret _ _ F'.keep
  · exfalso; rename (x.length : Int) = 0 => e0; exact hl e0
end
def impS : Stmt := .ImportFrom (some "sys") [] none default
def pE : Program := { PySem.Challenge.pw_oc0295_01 with main := { PySem.Challenge.pw_oc0295_01.main with body := [impS] } }
theorem pE_recs : recsOf pE = [] := rfl
theorem pE_lits : litsOf pE = [] := rfl
theorem pE_owns : ownsOf pE = [] := rfl
theorem pE_cls (l : List Str) : clssOf pE l = [] := rfl
theorem pE_val (x : Str) : valOf pE x = none := rfl
theorem pE_imp : importsNone pE = false := by decide +kernel
abbrev looseE (p : Program) (loose : List Str) : List Str := loose ++ ((recsOf p).map (·.name) ++ ((litsOf p).map (·.1) ++ (clssOf p loose).map (·.name)))
theorem top_E {p : Program} {loose : List Str} {mean : ExcName → Option Value} {mg mb : Str → Option Value} {h₁ h₀ : Heap} {c P : Addr} {ps ps' : Array Value} (B : Based h₁ h₀ c P ps) (T : Top p loose mean mg mb h₀) : Top pE (looseE p loose) mean mg mb (regrown h₀ P ps') where
  g := LGe.ns_regrown B T.g
  b := LGe.ns_regrown B T.b
  nolimit := let ⟨mc, h1, h2⟩ := T.nolimit; ⟨mc, LGe.ns_regrown B h1, h2⟩
  nodigits := let ⟨mc, h1, h2⟩ := T.nodigits; ⟨mc, LGe.ns_regrown B h1, h2⟩
  fn := fun d hd => by rw [pE_recs] at hd; cases hd
  own := fun d hd => by rw [pE_owns] at hd; cases hd
  const := fun x d hd => by rw [pE_val] at hd; cases hd
  free := fun x h1 h2 _ _ _ => by
    simp only [looseE, List.mem_append, not_or] at h2
    exact T.free x h1 h2.1 h2.2.1 h2.2.2.1 h2.2.2.2
  builtins := T.builtins
  tab := fun d hd => by rw [pE_recs] at hd; cases hd
  bmain := let ⟨bm, ob, a, b, c, d, e, f⟩ := T.bmain; ⟨bm, ob, a, b, (Heap.get?_update_other _ _ (Ne.symm (B.ne_of_cls c (by rw [d]; intro h; cases h)))).trans c, d, e, f⟩
  seer := fun h => by rw [pE_imp] at h; cases h
inductive Clks : List (List Nat) → Prop
  | nil : Clks []
  | cons {d0 d1 d2 d3 look : Nat} {r : List (List Nat)} (h0 : d0 < 8) (h1 : d1 < 8) (h2 : d2 < 8) (h3 : d3 < 8) (hl : look < 4) (h : Clks r) : Clks (clkL d0 d1 d2 d3 look :: r)
theorem strL_getD {l : List Nat} {p : Nat} (h : p < l.length) : (strL l).cps.getD p 0 ∈ l := by
  have e : (strL l).cps.getD p 0 = l[p] := by simp [strL, Array.getD, h]
  rw [e]
  exact List.getElem_mem h
/-- quote upon a clock, wherever it is called -/
theorem quoteC {w : World} {d0 d1 d2 d3 look : Nat} (h0 : d0 < 8) (h1 : d1 < 8) (h2 : d2 < 8) (h3 : d3 < 8) (hlook : look < 4) {t : Tok}
    {p : Program} {loose : List Str} {mg mb : Str → Option Value} {A : Around} {s : Shared} {Q E : Value → Shared → Prop} (X : (K w.params).In s.heap) (T : TopRead p loose mg mb s.heap)
    (hd : A.depth + 5 < recursionLimit) (hu : A.units + 40 < cLine) (hret : ∀ h' tk', (∀ b o, s.heap.get? b = some o → h'.get? b = some o) → Q (.str (strL (clkL d0 d1 d2 d3 look)) t) { s with heap := h', toks := tk' }) :
    wpAny (model PySem.Challenge.pw_oc0295_01 w) A (call (.ref 772) [.str (strL (clkL d0 d1 d2 d3 look)) t]) Q E s := by
  have hc := clkL_clk (look := look) h0 h1 h2 h3
  have hb : (strL (clkL d0 d1 d2 d3 look)).length < 10 := by rw [strL_len]; omega
  have hl : ¬ ((strL (clkL d0 d1 d2 d3 look)).length : Int) = 0 := by rw [strL_len]; omega
  have key : ∀ n, n = (clkL d0 d1 d2 d3 look).length → (∀ h : Heap, (K w.params).In h → Looks (model PySem.Challenge.pw_oc0295_01 w) h (reTarget "re.Pattern.search" "search" ⟨[.ref 62, .str (strL (clkL d0 d1 d2 d3 look)) t], []⟩) ⟨.ref 62, .str (strL (clkL d0 d1 d2 d3 look)) t, qc, (strL (clkL d0 d1 d2 d3 look)).cps, 0, 0, 0, n⟩) → wpAny (model PySem.Challenge.pw_oc0295_01 w) A (call (.ref 772) [.str (strL (clkL d0 d1 d2 d3 look)) t]) Q E s :=
    fun n hn hT => quoteP (n := n) (by omega) (fun p hp => hc.1 _ (strL_getD (by omega))) hl hb hT X T hd hu hret
  have hlk : look = 0 ∨ look = 1 ∨ look = 2 ∨ look = 3 := by omega
  rcases hlk with rfl | rfl | rfl | rfl
  · exact key 4 rfl fun h X => q_target4 X _ _ _ _ t
  · exact key 5 rfl fun h X => q_target5 X _ _ _ _ _ t
  · exact key 5 rfl fun h X => q_target5 X _ _ _ _ _ t
  · exact key 5 rfl fun h X => q_target5 X _ _ _ _ _ t
theorem StrVs.get : ∀ {ws : List (List Nat)} {vs : List Value}, StrVs ws vs → ∀ {i : Nat} {v : Value}, vs[i]? = some v → ∃ x t, ws[i]? = some x ∧ v = .str (strL x) t
  | _, _, .cons (x := x) (t := t) _, 0, v, e => by
    have e : Value.str (strL x) t = v := by simpa using e
    exact ⟨x, t, rfl, e.symm⟩
  | _, _, .cons h, i + 1, v, e => by
    obtain ⟨x, t, h1, h2⟩ := h.get (i := i) (by simpa using e)
    exact ⟨x, t, by simpa using h1, h2⟩
theorem StrVs.len : ∀ {ws : List (List Nat)} {vs : List Value}, StrVs ws vs → vs.length = ws.length
  | _, _, .nil => rfl
  | _, _, .cons h => by simp [h.len]
theorem Clks.get : ∀ {ws : List (List Nat)}, Clks ws → ∀ {i : Nat} {x : List Nat}, ws[i]? = some x → ∃ d0 d1 d2 d3 look, d0 < 8 ∧ d1 < 8 ∧ d2 < 8 ∧ d3 < 8 ∧ look < 4 ∧ x = clkL d0 d1 d2 d3 look
  | _, .cons (d0 := d0) (d1 := d1) (d2 := d2) (d3 := d3) (look := look) h0 h1 h2 h3 hl _, 0, x, e => by
    have e : clkL d0 d1 d2 d3 look = x := by simpa using e
    exact ⟨_, _, _, _, _, h0, h1, h2, h3, hl, e.symm⟩
  | _, .cons _ _ _ _ _ h, i + 1, x, e => h.get (i := i) (by simpa using e)
theorem kb_K {w : World} : kb_classed (K w.params) = true := by kernel_rfl
theorem passing_all (n : Nat) : passing (fun _ => true) n 0 = List.range n := by unfold passing; simp
@[reducible] def tabJ : Obj := ⟨.none, none, .fields #[], #[]⟩
theorem based_join {w : World} {h : Heap} (X : (K w.params).In h) (t : h.get? 759 = some tabJ) : Based h h 763 759 #[] :=
  Based.start ⟨_, _, _, _, _, _, _, _, _, _, X 763 _ rfl, rfl, rfl, rfl, rfl, rfl, rfl, t, rfl, by first | exact trivial | simp [TriplesOk], by decide⟩ ⟨⟨_, _, X 763 _ rfl, rfl, rfl, rfl⟩, t⟩ (by decide)
theorem regrown_fr {h₀ h g : Heap} {L L' : Addr} {m m' : Str → Option Value} {ps' : Array Value} (F : Fr h₀ L g m) (F' : Fr (regrown g 759 ps') L' h m') (t : h₀.get? 759 = some tabJ) : Fr (regrown h₀ 759 ps') L h m := by
  have hlt : 759 < h₀.objs.size := Heap.lt_size t
  have hL : L ≠ 759 := Nat.ne_of_gt (Nat.lt_of_lt_of_le hlt F.above)
  have oth : ∀ b o, b ≠ 759 → g.get? b = some o → h.get? b = some o := fun b o hb e => F'.keep b o ((Heap.get?_update_other _ _ (Ne.symm hb)).trans e)
  refine ⟨F.ns.at' fun o e => oth _ o hL e, fun b o e => ?_, Nat.le_trans (Nat.le_of_eq (Heap.SameBut.update h₀ 759 _).1) F.above⟩
  by_cases hb : b = 759
  · subst hb
    have e1 : (regrown h₀ 759 ps').get? 759 = some { cls := .none, data := .fields ps' } := Heap.get?_update_self _ t rfl
    have e2 : (regrown g 759 ps').get? 759 = some { cls := .none, data := .fields ps' } := Heap.get?_update_self _ (F.keep _ _ t) rfl
    rw [e1] at e
    rw [← Option.some.inj e]
    exact F'.keep _ _ e2
  · exact oth b o hb (F.keep b o ((Heap.get?_update_other _ _ (Ne.symm hb)).symm.trans e))
theorem regrown_news {h₀ h g : Heap} {L L' : Addr} {m' : Str → Option Value} {ps' : Array Value} {news : Led} (N : News h₀ L g news) (F' : Fr (regrown g 759 ps') L' h m') (t : h₀.get? 759 = some tabJ) : News (regrown h₀ 759 ps') L h news := fun p hp => by
  have hp' := N p hp
  have hb : p.1 ≠ 759 := fun e => by rw [e, t] at hp'; cases hp'.2.2
  exact ⟨F'.keep _ _ ((Heap.get?_update_other _ _ (Ne.symm hb)).trans hp'.1), hp'.2.1, (Heap.get?_update_other _ _ (Ne.symm hb)).trans hp'.2.2⟩
theorem old_regrown {w : World} {h : Heap} {ps' : Array Value} (X : (K w.params).In h) (t : h.get? 759 = some tabJ) : OldK h (regrown h 759 ps') := by
  have B := based_join X t
  have oth : ∀ b, b ≠ 759 → (regrown h 759 ps').get? b = h.get? b := fun b hb => Heap.get?_update_other _ _ (Ne.symm hb)
  refine (OldK.refl h).step_table (more := ps') B.tab B.tab ?_ (fun b o hb e => (oth b hb).trans e) (by decide)
  rw [Array.empty_append]
  obtain ⟨⟨o, vs, e, r⟩, _⟩ := B.tab
  exact ⟨⟨o, vs, (oth 763 (by decide)).trans e, r⟩, Heap.get?_update_self _ t rfl⟩
theorem str_join : ∀ (ws : List (List Nat)), Str.join (Str.ofString " ") (ws.map strL) = strL (joinL ws)
  | [] => by decide +kernel
  | [a] => rfl
  | a :: b :: r => by
    have e : Str.ofString " " = strL [32] := by decide +kernel
    have ih := str_join (b :: r)
    show strL a ++ Str.ofString " " ++ Str.join (Str.ofString " ") ((b :: r).map strL) = strL (a ++ 32 :: joinL (b :: r))
    rw [ih, e, strL_cat, strL_cat]
    simp
theorem txt_join (ws : List (List Nat)) : Txt.join (Str.ofString " ") (ws.map strL) = strL (joinL ws) := (StrLaws.glued_eq_join _ _).trans (str_join ws)
theorem map_range_get (ws : List (List Nat)) : (List.range ws.length).map (fun j => strL (ws.getD j [])) = ws.map strL := by
  apply List.ext_getElem?
  intro j
  by_cases h : j < ws.length
  · simp [h]
  · rw [List.getElem?_eq_none (by simpa using h), List.getElem?_eq_none (by simpa using h)]
theorem Clks.le : ∀ {ws : List (List Nat)}, Clks ws → ∀ x ∈ ws, x.length ≤ 5
  | _, .cons h0 h1 h2 h3 _ h, x, hx => by
    rcases List.mem_cons.mp hx with rfl | hx
    · exact (clkL_clk h0 h1 h2 h3).2.2
    · exact h.le x hx
theorem join_fold (n : Nat) : ∀ (l : List Str) (a : Nat), (∀ x ∈ l, x.length ≤ 5) → l.foldl (fun a x => a + x.length + 1) a ≤ a + 6 * l.length
  | [], a, _ => by simp
  | x :: r, a, h => by
    have h1 := h x (.head _)
    have h2 := join_fold n r (a + x.length + 1) fun y hy => h y (.tail _ hy)
    simp only [List.foldl_cons, List.length_cons]
    omega
theorem join_ok {ws : List (List Nat)} (hc : Clks ws) (hn : ws.length < 50) : JoinOk (Str.ofString " ") (ws.map strL) = true := by
  have e : (Str.ofString " ").length = 1 := by decide +kernel
  have h1 := join_fold 0 (ws.map strL) 0 fun x hx => by
    obtain ⟨y, hy, rfl⟩ := List.mem_map.mp hx
    rw [strL_len]
    exact hc.le y hy
  unfold JoinOk
  rw [e]
  rw [List.foldl_toArray]
  simp only [List.length_map] at h1
  unfold Builtin.Str.tooLong
  have : sizeLine = sizeLine := rfl
  rw [Bool.not_eq_true', decide_eq_false_iff_not]
  have h3 : 300 ≤ sizeLine := by decide
  omega
theorem joinK {w : World} {ws : List (List Nat)} {vs : List Value} {c : Nat} {S : Addr} (hc : Clks ws) (hv : StrVs ws vs) (hn : ws.length < 50)
    {p : Program} {loose : List Str} {mean : ExcName → Option Value} {mg mb : Str → Option Value} {A : Around} {h₀ : Heap} {L : Addr} {m : Str → Option Value} {news : Led} {s : Shared} {Q E : Value → Shared → Prop}
    (F : Fr h₀ L s.heap m) (X : (K w.params).In h₀) (t759 : h₀.get? 759 = some tabJ) (N : News h₀ L s.heap news) (hS : (S, lstO ⟨vs⟩ c) ∈ news) (T : Top p loose mean mg mb h₀) (G : AllBare s.gens)
    (hA : A.handled = none) (hd : A.depth + 12 < recursionLimit) (hu : A.units + 100 < cLine)
    (hret : ∀ ps' s' t', Fr (regrown h₀ 759 ps') L s'.heap m → News (regrown h₀ 759 ps') L s'.heap news → (K w.params).In (regrown h₀ 759 ps') → Top pE (looseE p loose) mean mg mb (regrown h₀ 759 ps') → OldK h₀ (regrown h₀ 759 ps') → AllBare s'.gens → s'.os = s.os → Q (.str (strL (joinL ws)) t') s') :
    wpAny (model PySem.Challenge.pw_oc0295_01 w) A (call (.ref 764) [.ref S]) Q E s := by
  refine wpAny_call ?_
  have Xg := X.keeps F.keep
  have Tg := T.keeps F.keep
  have Bs := based_join Xg (F.keep _ _ t759)
  have hSl : s.heap.IsList S vs.toArray := ⟨_, (N _ hS).1, rfl, c, rfl⟩
  refine' code_defJ ?k1 ?k2 ?k6 ?k7 ?k8 ?k9 ?kB ?_ ?c2 ?c3 ?c4 ?c5; (case k1 => exact Xg); (case k2 => exact Tg.nolimit); (case k6 => k_is); (case k7 => k_is); (case k8 => omega); (case k9 => first | exact BindsTo.of_eq rfl | exact binds_K (by k_in) rfl (by k_is) rfl rfl rfl); (case c5 => decide); (case kB => exact locs rfl); (case c2 => exact rfl); (case c3 => exact rfl); (case c4 => exact rfl)
  intro h' F'
  have N' : News s.heap s.heap.objs.size h' [] := fun p hp => nomatch hp
  have hsz := F'.ns.lt
  generalize hL' : s.heap.objs.size = L' at F' N' hsz ⊢
  obtain ⟨bm, ob, M⟩ := bmod_of_top Tg
  try dsimp only
  try k_fold
  repeat' (first | (k_unfold; (try dsimp only)) | walk1 | (dsimp only; walk1) | (leave1; (try dsimp only)))
  obtain ⟨mm, F1, hS1⟩ : ∃ mm, Fr s.heap L' h' mm ∧ mm (Str.ofString "split_command") = some (.ref S) := ⟨_, F', rfl⟩
  refine GeneratorExp_list_rowsF (L := L') (m := mm) (cl := []) Bs M rfl rfl hA rfl rfl (by decide) rfl rfl rfl (by show A.depth + 1 < recursionLimit; omega) ?_ (by intro _; rfl)
  k_dflt (refine' ld ?k1 ?k2 ?_; (case k1 => exact F1); (case k2 => exact hS1))
  refine ⟨S, vs.toArray, rfl, ⟨_, F1.keep _ _ (N _ hS).1, rfl, c, rfl⟩, F1, G, Tg.nolimit.keeps F1.keep, L', fun _ => true, fun i y => ∃ x, ws[i]? = some x ∧ ∃ t, y = .str (strL x) t, Nat.le_refl _, hsz, ?_, ?_, ?_⟩
  · intro c' C A' E' i v t m₂ _ _ _ _ _ _ _ _
    exact wpAny_pure ⟨rfl, _, _, rfl, fun _ _ e => e⟩
  · intro c' C A' E' i v t m₂ hA' hd' hu' hit _ F₂ hm _ _
    obtain ⟨x, tx, hx, rfl⟩ := hv.get (i := i) (by simpa using hit)
    obtain ⟨d0, d1, d2, d3, look, h0, h1, h2, h3, hl, rfl⟩ := hc.get hx
    have X₂ := kb_in_regrown (ps' := #[] ++ #[rawInt 750, rawInt 20, .ref c']) Bs Xg Tg.g kb_K
    have T₂ := LGe.top_regrown F₂ (topRead_of Tg) Bs
    refine Call_ ?_
    refine nameG_K F₂ X₂ T₂ (by k_is) ?_ rfl rfl rfl (by decide)
    refine callWith_K X₂ (by k_is) ?_
    refine spliced_more ?_
    refine ldVarG F₂ hm ?_
    refine spliced_none ?_
    refine ⟨X₂.keeps F₂.keep, ?_⟩
    have e1 : (A.deeper (envOf (Str.ofString "join") cap764.1.scope L' 764 (.ref 763))).depth = A.depth + 1 := rfl
    have e2 : (A.deeper (envOf (Str.ofString "join") cap764.1.scope L' 764 (.ref 763))).units = A.units + 3 := rfl
    refine quoteC h0 h1 h2 h3 hl (X₂.keeps F₂.keep) (T₂.keeps F₂.keep) (by have := hd'; simp only [e1] at this; omega) (by have := hu'; simp only [e2] at this; omega) fun h'' tk'' hk => ?_
    exact ⟨⟨_, hx, _, rfl⟩, _, _, rfl, hk⟩
  · intro c' a s₅ B' F₅ G₅ hos hk X₅
    refine spliced_none ?_
    have hlen : (passing (fun _ => true) vs.toArray.size 0).length = ws.length := by rw [passing_all, List.length_range, List.size_toArray, hv.len]
    refine join_rowsK (tx := fun j => strL (ws.getD j [])) F₅ G₅ X₅ (Nat.le_refl _) ?_ ?_ ?_ ?_
    · intro j v hj
      obtain ⟨i, hi, x, hx, t, rfl⟩ := hj
      rw [passing_all] at hi
      have hij : i = j := by
        by_cases hh : j < vs.toArray.size
        · rw [List.getElem?_range hh] at hi; exact (Option.some.inj hi).symm
        · rw [List.getElem?_eq_none (by simpa using hh)] at hi; cases hi
      subst hij
      exact ⟨t, by rw [List.getD_eq_getElem?_getD, hx]; rfl⟩
    · rw [hlen, map_range_get]
      exact join_ok hc hn
    · intro s' t' F6 G6 ho6 hk6
      rw [hlen, map_range_get, txt_join]
      have Fz := regrown_fr F F6 t759
      refine hret _ s' t' Fz (regrown_news N F6 t759) (kb_in_regrown (based_join X t759) X T.g kb_K) (top_E (based_join X t759) T) ?_ G6 (ho6.trans hos)
      exact old_regrown X t759
    · rw [hlen]
      have h3 : 300 ≤ sizeLine := by decide
      omega

end
section

/-! ## for .. in range(n): a turn leaves the ledger as it was -/
theorem letGo_rng {prog : Program} {w : World} {A : Around} {E : Value → Shared → Prop} {x : Str} {px : Pos} {I : Addr} {v : Value} {Q' : Unit → Shared → Prop} {s' : Shared} (h : Q' () s') :
    wpAny (model prog w) A (letOwnedTupleGo (.Name x px) (.ref I) v) Q' E s' := by
  unfold letOwnedTupleGo
  exact wpAny_pure h
theorem rangeForN {prog : Program} {w : World} {A : Around} {E : Value → Shared → Prop} {s : Shared} {env : Env} {h₀ : Heap} {x : Str} {px pos : Pos} {iter : Expr} {body : List Stmt} {n : Nat} {m₀ : Str → Option Value} {news : Led} {Q : Flow → Shared → Prop}
    (hh : A.handled = none) (hx : env.kindOf x = some .local) (hp : (env.scope.kind == .class || (env.scope.kind == .module && env.locals != env.globals)) = false) (hn : n < 100)
    (hi : ∀ Q' : Value → Shared → Prop, (∀ r h' tk t u v, IsRange h' r 0 (n : Int) 1 t u v → Fr h₀ env.locals h' m₀ → News h₀ env.locals h' news → Q' (.ref r) { s with heap := h', toks := tk }) → wpAny (model prog w) A (eval iter env) Q' E s)
    (J : Nat → (Str → Option Value) → Led → Prop) (j0 : J 0 m₀ news)
    (step : ∀ i t I o m₁ nw h₁ tk₁, i < n → J i m₁ nw → (∀ q ∈ nw, q.1 ≠ I) → Fr h₀ env.locals h₁ (fun y => if y = x then some (.int (i : Int) t) else m₁ y) → News h₀ env.locals h₁ ((I, o) :: nw) →
      wpAny (model prog w) A (execs body env) (fun f s₃ => match f with
        | .ret v => Q (.ret v) s₃
        | .brk => Q .next s₃
        | _ => ∃ h' tk' m' nw', s₃ = { s with heap := h', toks := tk' } ∧ Fr h₀ env.locals h' m' ∧ News h₀ env.locals h' ((I, o) :: nw') ∧ (∀ q ∈ nw', q.1 ≠ I) ∧ J (i + 1) m' nw') E { s with heap := h₁, toks := tk₁ })
    (fin : ∀ h tk m' nw, Fr h₀ env.locals h m' → News h₀ env.locals h nw → J n m' nw → Q .next { s with heap := h, toks := tk })
    (hE : PassesOwn (model prog w) A env E) (hs : ∀ x, foldedSetIterable iter env x = pure x := by intro _; rfl) :
    wpAny (model prog w) A (exec (.For (.Name x px) iter body [] pos) env) Q E s := by
  refine wpAny_For (hi _ fun r h₁ tk t u v hr F N => ?_) hs
  have hsm : Builtin.Range.small 0 (n : Int) 1 = true := small_one (by omega) (by omega) (by omega) (by omega)
  have hrs : Builtin.Range.rangeSize 0 (n : Int) 1 = (n : Int) := by rw [rangeSize_one]; split <;> omega
  refine wpAny_pyIter_range hr hsm ?_
  rw [hrs]
  have hlt : ∀ p ∈ news, p.1 < h₁.objs.size := fun p hp => Heap.lt_size (N p hp).1
  have N0 := News.push F N { cls := .type "range_iterator", data := .fields #[rawInt 0, rawInt (n : Int), rawInt 1] }
  have F0 := F.push { cls := .type "range_iterator", data := .fields #[rawInt 0, rawInt (n : Int), rawInt 1] }
  have it0 : IsRangeIter (h₁.push { cls := .type "range_iterator", data := .fields #[rawInt 0, rawInt (n : Int), rawInt 1] }) h₁.objs.size ((0 : Nat) : Int) ((n : Int) - ((0 : Nat) : Int)) 1 := by
    have := Heap.get?_push_size h₁ (o := { cls := .type "range_iterator", data := .fields #[rawInt 0, rawInt (n : Int), rawInt 1] }) rfl
    show _ = some _
    rw [this]
    simp
  show codeAny _ _ _ _ { s with heap := h₁.push _, toks := tk }
  generalize h₁.push { cls := .type "range_iterator", data := .fields #[rawInt 0, rawInt (n : Int), rawInt 1] } = h₂ at N0 F0 it0 ⊢
  generalize h₁.objs.size = I at hlt N0 it0 ⊢
  have hoff : ∀ p ∈ news, p.1 ≠ I := fun p hp => Nat.ne_of_lt (hlt p hp)
  refine codeAny_forLoop_any (fun k s' => ∃ h tk m' nw i o, s' = { s with heap := h, toks := tk } ∧ IsRangeIter h I ((i : Nat) : Int) ((n : Int) - ((i : Nat) : Int)) 1 ∧ Fr h₀ env.locals h m' ∧ News h₀ env.locals h ((I, o) :: nw) ∧ (∀ q ∈ nw, q.1 ≠ I) ∧ J i m' nw ∧ i ≤ n ∧ k = n + 1 - i) ?_ (n + 1)
    ⟨_, tk, m₀, news, 0, _, rfl, it0, F0, N0, hoff, j0, Nat.zero_le _, rfl⟩
  clear hoff hlt N0 F0 it0 N F hr
  rintro k s' ⟨h, tk, m', nw, i, o, rfl, hit, F', N', hoff, hJ, hi, rfl⟩
  by_cases hlt' : i < n
  · refine wpAny_pyNext_range_item hit (by omega) fun h' hit' hs' => ?_
    have hit2 : IsRangeIter h' I ((i + 1 : Nat) : Int) ((n : Int) - ((i + 1 : Nat) : Int)) 1 := by
      have e1 : ((i : Nat) : Int) + 1 = ((i + 1 : Nat) : Int) := by omega
      have e2 : (n : Int) - ((i : Nat) : Int) - 1 = (n : Int) - ((i + 1 : Nat) : Int) := by omega
      rw [← e1, ← e2, ← e1] at *
      exact hit'
    obtain ⟨o2, ho2, hf2⟩ : ∃ o2, h'.get? I = some o2 ∧ ∀ hh : Heap, hh.get? I = some o2 → IsRangeIter hh I ((i + 1 : Nat) : Int) ((n : Int) - ((i + 1 : Nat) : Int)) 1 := ⟨_, hit2, fun _ e => e⟩
    have F1 := F'.update N' (.head _) hs'
    have N1 := News.setHead N' hoff hs' ho2
    refine letGo_rng ?_
    refine wpAny_assign_Name (wpAny_storeName_local hx F1.ns (fun h₃ hn₃ hs₃ => ?_) hp)
    have F3 := F1.set hn₃ hs₃
    have N3 := N1.set hs₃
    refine wpAny_mono (wpAny_passesOwn hE (step i _ I o2 m' nw h₃ _ hlt' hJ hoff F3 N3)) (fun f s₃ p => ?_) fun _ _ e => e
    have back : (∃ h' tk' m' nw', s₃ = { s with heap := h', toks := tk' } ∧ Fr h₀ env.locals h' m' ∧ News h₀ env.locals h' ((I, o2) :: nw') ∧ (∀ q ∈ nw', q.1 ≠ I) ∧ J (i + 1) m' nw') →
        ∃ m, m < n + 1 - i ∧ ∃ h tk m' nw i o, s₃ = { s with heap := h, toks := tk } ∧ IsRangeIter h I ((i : Nat) : Int) ((n : Int) - ((i : Nat) : Int)) 1 ∧ Fr h₀ env.locals h m' ∧ News h₀ env.locals h ((I, o) :: nw) ∧ (∀ q ∈ nw, q.1 ≠ I) ∧ J i m' nw ∧ i ≤ n ∧ m = n + 1 - i := by
      rintro ⟨h'', tk'', m'', nw'', rfl, F'', N'', off, j⟩
      exact ⟨n + 1 - (i + 1), by omega, h'', tk'', m'', nw'', i + 1, _, rfl, hf2 _ (N'' _ (.head _)).1, F'', N'', off, j, hlt', rfl⟩
    cases f with
    | ret v => exact p
    | brk => exact p
    | next => exact back p
    | cont => exact back p
  · have hin : i = n := by omega
    subst hin
    refine wpAny_pyNext_range_end hh hit (by omega) fun h' hs' => ?_
    have F1 : Fr h₀ env.locals h' m' := ⟨F'.ns.extBut hs' (fun e => (N' _ (.head _)).2.1 e.symm), fun b o e => hs' b o (fun q => by rw [q] at e; have := (N' _ (.head _)).2.2; rw [e] at this; cases this) (F'.keep b o e), F'.above⟩
    have N1 : News h₀ env.locals h' nw := fun p hp => ⟨hs' _ _ (hoff p hp) (N' p (.tail _ hp)).1, (N' p (.tail _ hp)).2⟩
    exact wpAny_execs_nil (fin h' tk m' nw F1 N1 hJ)
theorem rangeFor {prog : Program} {w : World} {A : Around} {E : Value → Shared → Prop} {s : Shared} {env : Env} {h₀ : Heap} {x : Str} {px pos : Pos} {iter : Expr} {body : List Stmt} {n : Nat} {m₀ : Str → Option Value} {news : Led} {Q : Flow → Shared → Prop}
    (hh : A.handled = none) (hx : env.kindOf x = some .local) (hp : (env.scope.kind == .class || (env.scope.kind == .module && env.locals != env.globals)) = false) (hn : n < 100)
    (hi : ∀ Q' : Value → Shared → Prop, (∀ r h' tk t u v, IsRange h' r 0 (n : Int) 1 t u v → Fr h₀ env.locals h' m₀ → News h₀ env.locals h' news → Q' (.ref r) { s with heap := h', toks := tk }) → wpAny (model prog w) A (eval iter env) Q' E s)
    (J : Nat → (Str → Option Value) → Prop) (j0 : J 0 m₀)
    (step : ∀ i t I o m₁ h₁ tk₁, i < n → J i m₁ → Fr h₀ env.locals h₁ (fun y => if y = x then some (.int (i : Int) t) else m₁ y) → News h₀ env.locals h₁ ((I, o) :: news) →
      wpAny (model prog w) A (execs body env) (fun f s₃ => match f with
        | .ret v => Q (.ret v) s₃
        | .brk => Q .next s₃
        | _ => ∃ h' tk' m', s₃ = { s with heap := h', toks := tk' } ∧ Fr h₀ env.locals h' m' ∧ News h₀ env.locals h' ((I, o) :: news) ∧ J (i + 1) m') E { s with heap := h₁, toks := tk₁ })
    (fin : ∀ h tk m', Fr h₀ env.locals h m' → News h₀ env.locals h news → J n m' → Q .next { s with heap := h, toks := tk })
    (hE : PassesOwn (model prog w) A env E) (hs : ∀ x, foldedSetIterable iter env x = pure x := by intro _; rfl) :
    wpAny (model prog w) A (exec (.For (.Name x px) iter body [] pos) env) Q E s := by
  refine rangeForN hh hx hp hn hi (fun i m' nw => nw = news ∧ J i m') ⟨rfl, j0⟩ ?_ (fun h tk m' nw F' N' j => by obtain ⟨rfl, j⟩ := j; exact fin h tk m' F' N' j) hE hs
  rintro i t I o m₁ nw h₁ tk₁ hlt ⟨rfl, hJ⟩ off F' N'
  refine wpAny_mono (step i t I o m₁ h₁ tk₁ hlt hJ F' N') (fun f s₃ p => ?_) fun _ _ e => e
  have back : (∃ h' tk' m', s₃ = { s with heap := h', toks := tk' } ∧ Fr h₀ env.locals h' m' ∧ News h₀ env.locals h' ((I, o) :: nw) ∧ J (i + 1) m') → ∃ h' tk' m' nw', s₃ = { s with heap := h', toks := tk' } ∧ Fr h₀ env.locals h' m' ∧ News h₀ env.locals h' ((I, o) :: nw') ∧ (∀ q ∈ nw', q.1 ≠ I) ∧ nw' = nw ∧ J (i + 1) m' := by
    rintro ⟨h', tk', m', rfl, F'', N'', j⟩
    exact ⟨h', tk', m', nw, rfl, F'', N'', off, rfl, j⟩
  cases f with
  | ret v => exact p
  | brk => exact p
  | next => exact back p
  | cont => exact back p

end
section


/-! ## enumerate(a tuple of the text's own); for .. else over such a tuple -/
section
variable {prog : Program} {w : World} {A : Around} {E : Value → Shared → Prop} {s : Shared}
theorem nextOf_tup_item {it t : Addr} {i : Nat} {items : Array Value} {x : Value} {Q : Value → Shared → Prop} (hit : s.heap.IsTupleIter it t i) (ht : s.heap.IsTuple t items) (hx : items[i]? = some x)
    (hQ : ∀ h', h'.IsTupleIter it t (i + 1) → Heap.SameBut it s.heap h' → Q x { s with heap := h' }) : wpAny (model prog w) A (Builtin.SmallTypes.nextOf (.ref it)) Q E s := by
  obtain ⟨o, ho, hc, hd⟩ := id hit
  obtain ⟨ol, hol, _, nl, hdl⟩ := ht
  unfold Builtin.SmallTypes.nextOf
  refine wpAny_bind (wpAny_callSpecial?_slot (name := Str.ofString "__next__") hit.typeIs F.slot_tuple_iterator_next
    (wpAny_call_entry F.slot_tuple_iterator_next hit.typeIs F.entry_tuple_iterator_next ?_ (F.args_tuple_iterator_next_1 _)))
  show wpAny _ _ (field (.ref it) 0 >>= _) _ _ s
  refine wpAny_bind (wpAny_field ho hd (x := .ref t) rfl ?_)
  show wpAny _ _ (if (Value.ref t == Value.none) = true then _ else _) _ _ s
  rw [if_neg (show ¬ ((Value.ref t == Value.none) = true) from Bool.false_ne_true)]
  show wpAny _ _ (field (.ref it) 1 >>= _) _ _ s
  refine wpAny_bind (wpAny_field ho hd (x := .int i 0) rfl ?_)
  show wpAny _ _ (seqItems? (.ref t) >>= _) _ _ s
  refine wpAny_bind (wpAny_seqItems hol hdl ?_)
  simp only [Int.toNat_natCast, hx]
  refine wpAny_bind (wpAny_setField ho hd (by simp) (wpAny_pure ⟨x, rfl, wpAny_pure (hQ _ ?_ (Heap.SameBut.update ..))⟩))
  exact ⟨_, Heap.get?_update_self _ ho (Obj.isFreed_of_fields (Obj.data_mapFields hd _)), (Obj.cls_mapFields ..).trans hc, by
    rw [Obj.data_mapFields hd]; simp [rawInt]⟩
theorem nextOf_tup_end {it t : Addr} {i : Nat} {items : Array Value} {Q : Value → Shared → Prop} (hh : A.handled = none) (hit : s.heap.IsTupleIter it t i) (ht : s.heap.IsTuple t items) (hx : items[i]? = none)
    (hE : ∀ h' e, Heap.ExtBut it s.heap h' → (∃ o, h'.get? e = some o ∧ o.cls = .type "StopIteration") → E (.ref e) { s with heap := h' }) : wpAny (model prog w) A (Builtin.SmallTypes.nextOf (.ref it)) Q E s := by
  obtain ⟨o, ho, hc, hd⟩ := id hit
  obtain ⟨ol, hol, _, nl, hdl⟩ := ht
  unfold Builtin.SmallTypes.nextOf
  refine wpAny_bind (wpAny_callSpecial?_slot (name := Str.ofString "__next__") hit.typeIs F.slot_tuple_iterator_next
    (wpAny_call_entry F.slot_tuple_iterator_next hit.typeIs F.entry_tuple_iterator_next ?_ (F.args_tuple_iterator_next_1 _)))
  show wpAny _ _ (field (.ref it) 0 >>= _) _ _ s
  refine wpAny_bind (wpAny_field ho hd (x := .ref t) rfl ?_)
  show wpAny _ _ (if (Value.ref t == Value.none) = true then _ else _) _ _ s
  rw [if_neg (show ¬ ((Value.ref t == Value.none) = true) from Bool.false_ne_true)]
  show wpAny _ _ (field (.ref it) 1 >>= _) _ _ s
  refine wpAny_bind (wpAny_field ho hd (x := .int i 0) rfl ?_)
  show wpAny _ _ (seqItems? (.ref t) >>= _) _ _ s
  refine wpAny_bind (wpAny_seqItems hol hdl ?_)
  simp only [Int.toNat_natCast, hx]
  refine wpAny_bind (wpAny_rule (wpAny_bind (wpAny_setField ho hd (by simp) ?_)))
  show wpAny _ _ (newExc (.type "StopIteration") [] >>= _) _ _ _
  refine wpAny_bind ?_
  simp only [newExc, newTuple]
  refine wpAny_bind (wpAny_newObj_type ?_ (by size_fits))
  refine wpAny_bind (m := firstArgMember _ _) (wpAny_of_eq (a := Value.none) (by first | rfl | (simp only [firstArgMember]; rfl)) ?_)
  refine wpAny_newObj_type ?_ (by size_fits)
  simp only [raiseNew]
  refine wpAny_bind (wpAny_handled ?_)
  first | rw [show A.in1.handled = none from hh] | rw [hh]
  refine wpAny_bind (wpAny_pure (wpAny_throw ?_))
  exact hE _ _ (((Heap.SameBut.update ..).extBut.push _).push _) ⟨_, Heap.get?_push_size _ rfl, rfl⟩
end
theorem drawsTup {prog : Program} {w : World} {A : Around} (hh : A.handled = none) (it l : Addr) (hne : l ≠ it) (items : Array Value) :
    Draws prog w A it [it, l] items.size (fun i v => items[i]? = some v) (fun i h => h.IsTupleIter it l i ∧ h.IsTuple l items) where
  live := fun _ _ st => let ⟨o, ho, _⟩ := st.1; ⟨o, ho⟩
  frame := fun _ _ _ st hk => ⟨let ⟨o, ho, r⟩ := st.1; ⟨o, hk it (by simp) o ho, r⟩, let ⟨o, ho, r⟩ := st.2; ⟨o, hk l (by simp) o ho, r⟩⟩
  item := fun i s Q E hi st hQ => by
    refine nextOf_tup_item st.1 st.2 (x := items[i]) (by simp [hi]) fun h' hit' hs' => ?_
    exact hQ _ h' s.toks (by simp [hi]) ⟨hit', st.2.extBut hs'.extBut hne⟩ hs'
  done := fun s Q E st hE => nextOf_tup_end hh st.1 st.2 (by simp) hE
set_option maxRecDepth 100000 in
theorem enumNewT (l : Addr) (items : Array Value) (n : Nat) (dct : Option Addr) (sl : Array (Option Value)) :
    Meets (Builtin.«enumerate.__new__» ⟨[.type "enumerate", .ref l], []⟩) (fun _ R s => s.heap.get? l = some { cls := .type "tuple", dict := dct, data := .seq items n, slots := sl } ∧
      R (.ok (.ret (.ref (s.heap.push { cls := .type "tuple_iterator", data := .fields #[.ref l, .int 0 0] }).objs.size)))
        { s with heap := (s.heap.push { cls := .type "tuple_iterator", data := .fields #[.ref l, .int 0 0] }).push { cls := .type "enumerate", data := .fields #[.none, .bool false, .ref s.heap.objs.size, rawInt 0, .none, .none] } }) :=
  .of_wp fun prog w A R s h => by
    obtain ⟨hp, g, d, tk, os⟩ := s; obtain ⟨hl, h⟩ := h
    have hsub := sub_enumerate
    have hL : Heap.IsTuple (Shared.heap ⟨hp, g, d, tk, os⟩) l items := ⟨_, hl, rfl, n, rfl⟩
    wp_walk using AutoSeq1.wpAny_loadPart' hl
    refine wpAny_stack_any fun st => wpAny_pure ?_
    split
    · rename_i c _ _ _ _ _
      cases (c == Value.type "enumerate")
      · wp_walk using AutoSeq1.wpAny_loadPart' hl, wpAny_pyIter_tuple hL
        exact ⟨_, rfl, h⟩
      · wp_walk using AutoSeq1.wpAny_loadPart' hl, wpAny_pyIter_tuple hL
        exact ⟨_, rfl, h⟩
    · wp_walk using AutoSeq1.wpAny_loadPart' hl, wpAny_pyIter_tuple hL
      exact ⟨_, rfl, h⟩
section
variable {prog : Program} {w : World} {A : Around} {E : Value → Shared → Prop} {s : Shared}
theorem call_enumT {l : Addr} {items : Array Value} {Q : Value → Shared → Prop} (hL : s.heap.IsTuple l items)
    (h : ∀ h', IsEnum h' (s.heap.objs.size + 1) s.heap.objs.size 0 .none → h'.IsTupleIter s.heap.objs.size l 0 → h'.objs.size = s.heap.objs.size + 2 →
      (∀ b o, s.heap.get? b = some o → h'.get? b = some o) → Q (.ref (s.heap.objs.size + 1)) { s with heap := h' }) :
    wpAny (model prog w) A (call (.type "enumerate") [.ref l]) Q E s := by
  obtain ⟨⟨c, dct, dt, sl⟩, hl, hc, n, hd⟩ := hL
  replace hc : c = .type "tuple" := hc
  replace hd : dt = .seq items n := hd
  subst hc hd
  refine callType_new F.called_enumerate (by decide) (F.typeCall_enumerate_1 _) (F.newCall_enumerate_1 _) (fun obj => F.args_object_init_2 obj _) F.entry_enumerate_new
    (enumNewT l items n dct sl) ⟨hl, ?_⟩
  have hz : (s.heap.push { cls := .type "tuple_iterator", data := .fields #[.ref l, .int 0 0] }).objs.size = s.heap.objs.size + 1 := Heap.size_push ..
  show _ ∧ _
  rw [hz]
  have he : IsEnum ((s.heap.push { cls := .type "tuple_iterator", data := .fields #[.ref l, .int 0 0] }).push
      { cls := .type "enumerate", data := .fields #[.none, .bool false, .ref s.heap.objs.size, rawInt 0, .none, .none] }) (s.heap.objs.size + 1) s.heap.objs.size 0 .none := by
    have := Heap.get?_push_size (s.heap.push { cls := .type "tuple_iterator", data := .fields #[.ref l, .int 0 0] })
      (o := { cls := .type "enumerate", data := .fields #[.none, .bool false, .ref s.heap.objs.size, rawInt 0, .none, .none] }) rfl
    rw [hz] at this; exact this
  refine ⟨⟨_, he, rfl⟩, h _ he ⟨_, Heap.get?_push_of_some _ (Heap.get?_push_size _ rfl), rfl, rfl⟩ (by rw [Heap.size_push, hz]) fun b o x => Heap.get?_push_of_some _ (Heap.get?_push_of_some _ x)⟩
variable {env : Env} {h₀ : Heap} {target : Expr} {body orelse : List Stmt} {Q : Flow → Shared → Prop}
/-- for .. in enumerate(t): by what holds between the turns (of the frame and the ledger) -/
theorem enumLoop {elts : List Expr} {kk : Nat} {pos : Pos} {l : Addr} {lo : Obj} {vs : List Value} {n : Nat} {m₀ : Str → Option Value} {news : List (Addr × Obj)}
    (hh : A.handled = none) (F : Fr h₀ env.locals s.heap m₀) (N : News h₀ env.locals s.heap news) (hg : h₀.get? l = some lo) (hc : lo.cls = .type "tuple") (hd : lo.data = .seq vs.toArray n)
    (J : Nat → (Str → Option Value) → List (Addr × Obj) → Prop) (j0 : J 0 m₀ news)
    (step : ∀ i x T ti I m₁ news₁ h₁ tk₁ o1 o2, vs[i]? = some x → J i m₁ news₁ → IsTup h₁ T #[.int (i : Int) ti, x] → Fr h₀ env.locals h₁ m₁ → (∀ p ∈ news₁, p.1 ≠ I ∧ p.1 ≠ I + 1) → News h₀ env.locals h₁ ((I + 1, o1) :: (I, o2) :: news₁) →
      wpAny (model prog w) A (assign (.Tuple elts kk pos) env (.ref T)) (fun _ s₂ => wpAny (model prog w) A (execs body env) (fun f s₃ => match f with
        | .ret v => Q (.ret v) s₃
        | .brk => Q .next s₃
        | _ => ∃ h' tk' m' news', s₃ = { s with heap := h', toks := tk' } ∧ Fr h₀ env.locals h' m' ∧ News h₀ env.locals h' ((I + 1, o1) :: (I, o2) :: news') ∧ (∀ p ∈ news', p.1 ≠ I ∧ p.1 ≠ I + 1) ∧ J (i + 1) m' news') E s₂) E { s with heap := h₁, toks := tk₁ })
    (fin : ∀ h tk m' news', Fr h₀ env.locals h m' → News h₀ env.locals h news' → J vs.length m' news' → Q .next { s with heap := h, toks := tk }) :
    wpAny (model prog w) A (call (.type "enumerate") [.ref l]) (fun xv s₁ => wpAny (model prog w) A (pyIter xv) (fun it s₂ => TurnsAt prog w A h₀ env (.Tuple elts kk pos) body Q E it s₂) E s₁) E s := by
  have hls : s.heap.get? l = some lo := F.keep _ _ hg
  have hlt : l < s.heap.objs.size := Heap.lt_size hls
  refine call_enumT ⟨lo, hls, hc, n, hd⟩ fun h' hE hI hsz hk => ?_
  refine wpAny_pyIter_enum hE ?_
  have W := KTurns.ofWalksU (prog := prog) (w := w) (A := A) (elts := elts) (k := kk) (pos := pos) (WalksT.enumerateD (drawsTup (prog := prog) (w := w) (A := A.in1) hh s.heap.objs.size l (Nat.ne_of_lt hlt) vs.toArray) (s.heap.objs.size + 1) (Nat.succ_ne_self _) (by
    intro hm
    rcases List.mem_cons.mp hm with e | hm
    · exact Nat.succ_ne_self _ e
    · have e := List.mem_singleton.mp hm
      exact absurd hlt (by rw [← e]; exact Nat.not_lt.mpr (Nat.le_succ _))) (List.mem_cons_self ..)).toU
  have hLs : env.locals < s.heap.objs.size := F.ns.lt
  have hnew1 : h₀.get? s.heap.objs.size = none := next_is_new F
  have hnew2 : h₀.get? (s.heap.objs.size + 1) = none := ktu_new F (Nat.le_succ _)
  refine ⟨_, _, _, _, _, _, _, m₀, news, fun i m₁ n₁ => J i m₁ n₁ ∧ (∀ p ∈ n₁, p.1 ≠ s.heap.objs.size ∧ p.1 ≠ s.heap.objs.size + 1), rfl, W, ?_, ?_, ?_, ⟨⟨_, hE⟩, hI, ⟨lo, hk _ _ hls, hc, n, hd⟩⟩, F.keeps hk, N.grown hk, ⟨j0, ?_⟩, ?_, ?_⟩
  · intro hm
    simp only [List.mem_cons, List.not_mem_nil, or_false] at hm
    rcases hm with e | e | e
    · exact absurd hLs (by rw [e]; exact Nat.not_lt.mpr (Nat.le_succ _))
    · exact absurd hLs (by rw [e]; exact Nat.lt_irrefl _)
    · exact absurd (Heap.lt_size hg) (Nat.not_lt.mpr (e ▸ F.above))
  · intro b hb
    simp only [List.mem_cons, List.not_mem_nil, or_false] at hb
    rcases hb with rfl | rfl
    · exact hnew2
    · exact hnew1
  · intro p hp hm
    have h1 := Heap.lt_size (N p hp).1
    simp only [List.mem_cons, List.not_mem_nil, or_false] at hm
    rcases hm with e | e
    · exact absurd h1 (by rw [e]; exact Nat.not_lt.mpr (Nat.le_succ _))
    · exact absurd h1 (by rw [e]; exact Nat.lt_irrefl _)
  · intro p hp
    have h1 := Heap.lt_size (N p hp).1
    exact ⟨Nat.ne_of_lt h1, Nat.ne_of_lt (Nat.lt_succ_of_lt h1)⟩
  · rintro i v m₁ news₁ h₁ tk₁ own hin ⟨T, vals, rfl, ⟨t, x, hx, rfl⟩, hT⟩ ⟨hJ, hoff⟩ _ hown hget hall hst F₁ N₁
    obtain ⟨⟨old, he0⟩, ⟨⟨oi, hoi, hic, hid⟩, _⟩⟩ := hst
    obtain ⟨oe, he⟩ : ∃ oe, h₁.get? (s.heap.objs.size + 1) = some oe := ⟨_, he0⟩
    have m1 := hall (s.heap.objs.size + 1) (List.mem_cons_self ..) hnew2 _ he
    have m2 := hall s.heap.objs.size (List.mem_cons_of_mem _ (List.mem_cons_self ..)) hnew1 _ hoi
    have N₂ : News h₀ env.locals h₁ ((s.heap.objs.size + 1, oe) :: (s.heap.objs.size, oi) :: news₁) := fun p hp => by
      rcases List.mem_cons.mp hp with rfl | hp
      · exact N₁ _ (List.mem_append_left _ m1)
      · rcases List.mem_cons.mp hp with rfl | hp
        · exact N₁ _ (List.mem_append_left _ m2)
        · exact N₁ _ (List.mem_append_right _ hp)
    have hx' : vs[i]? = some x := by simpa using hx
    refine wpAny_mono (step i x T t s.heap.objs.size m₁ news₁ h₁ tk₁ oe oi hx' hJ hT F₁ hoff N₂) (fun _ s₂ h₂ => wpAny_mono h₂ (fun f s₃ p => ?_) fun _ _ e => e) fun _ _ e => e
    have back : (∃ h' tk' m' news', s₃ = { s with heap := h', toks := tk' } ∧ Fr h₀ env.locals h' m' ∧ News h₀ env.locals h' ((s.heap.objs.size + 1, oe) :: (s.heap.objs.size, oi) :: news') ∧ (∀ p ∈ news', p.1 ≠ s.heap.objs.size ∧ p.1 ≠ s.heap.objs.size + 1) ∧ J (i + 1) m' news') →
        LoopStepU h₀ env.locals [s.heap.objs.size + 1, s.heap.objs.size] own (fun m' n' => J (i + 1) m' n' ∧ (∀ p ∈ n', p.1 ≠ s.heap.objs.size ∧ p.1 ≠ s.heap.objs.size + 1)) { s with heap := h₁, toks := tk₁ } .next s₃ := by
      rintro ⟨h'', tk'', m', news', rfl, F'', N'', ho, j⟩
      refine ⟨rfl, h'', tk'', m', news', rfl, F'', fun q hq => ?_, fun q hq hI => ?_, j, ho⟩
      · rcases List.mem_append.mp hq with hq | hq
        · have h1 := hown q hq
          have h2 := hget q hq
          simp only [List.mem_cons, List.not_mem_nil, or_false] at h1
          obtain ⟨qa, qo⟩ := q
          dsimp only at h1 h2
          rcases h1 with rfl | rfl | rfl
          · rw [he] at h2
            rw [← Option.some.inj h2]
            exact N'' _ (List.mem_cons_self ..)
          · rw [hoi] at h2
            rw [← Option.some.inj h2]
            exact N'' _ (List.mem_cons_of_mem _ (List.mem_cons_self ..))
          · have h4 := (N₁ _ (List.mem_append_left _ hq)).2.2
            dsimp only at h4
            rw [hg] at h4
            cases h4
        · exact N'' _ (List.mem_cons_of_mem _ (List.mem_cons_of_mem _ hq))
      · have h1 := ho q hq
        simp only [List.mem_cons, List.not_mem_nil, or_false] at hI
        rcases hI with e | e
        · exact h1.2 e
        · exact h1.1 e
    cases f with
    | ret v => exact .ret p
    | brk => exact .brk p
    | next => exact .next (back p)
    | cont => exact .cont (back p)
  · intro h'' tk m' news' F'' N'' _ hJ
    have hJ : J vs.toArray.size m' news' := hJ.1
    rw [List.size_toArray] at hJ
    exact fin h'' tk m' news' F'' N'' hJ
/-- for .. in t: .. else: .. , t a tuple of the text's own; the turns that go on leave the ledger as it is -/
theorem tupElse {y : Str} {py pos : Pos} {l : Addr} {lo : Obj} {vs : List Value} {n : Nat} {m₀ : Str → Option Value} {news : List (Addr × Obj)}
    (hh : A.handled = none) (F : Fr h₀ env.locals s.heap m₀) (N : News h₀ env.locals s.heap news) (hg : h₀.get? l = some lo) (hc : lo.cls = .type "tuple") (hd : lo.data = .seq vs.toArray n)
    (hy : ∀ Q' : Value → Shared → Prop, Q' (.ref l) s → wpAny (model prog w) A (eval (.Name y py) env) Q' E s)
    (J : Nat → (Str → Option Value) → Prop) (j0 : J 0 m₀)
    (step : ∀ i x I o m₁ h₁ tk₁, vs[i]? = some x → J i m₁ → (∀ p ∈ news, p.1 < I) → Fr h₀ env.locals h₁ m₁ → News h₀ env.locals h₁ ((I, o) :: news) →
      wpAny (model prog w) A (assign target env x) (fun _ s₂ => wpAny (model prog w) A (execs body env) (fun f s₃ => match f with
        | .ret v => Q (.ret v) s₃
        | .brk => Q .next s₃
        | _ => ∃ h' tk' m', s₃ = { s with heap := h', toks := tk' } ∧ Fr h₀ env.locals h' m' ∧ News h₀ env.locals h' ((I, o) :: news) ∧ J (i + 1) m') E s₂) E { s with heap := h₁, toks := tk₁ })
    (fin : ∀ h tk m', Fr h₀ env.locals h m' → News h₀ env.locals h news → J vs.length m' → wpAny (model prog w) A (execs orelse env) Q E { s with heap := h, toks := tk })
    (hs : ∀ x, foldedSetIterable (.Name y py) env x = pure x := by intro _; rfl)
    (hE : PassesOwn (model prog w) A env E := by passes_own) :
    wpAny (model prog w) A (exec (.For target (.Name y py) body orelse pos) env) Q E s := by
  have hls : ∀ {h : Heap} {m : Str → Option Value}, Fr h₀ env.locals h m → h.IsTuple l vs.toArray := fun F => ⟨lo, F.keep _ _ hg, hc, n, hd⟩
  refine wpAny_For (hy _ ?_) hs
  refine wpAny_pyIter_tuple (hls F) ?_
  have hlt : ∀ p ∈ news, p.1 < s.heap.objs.size := fun p hp => Heap.lt_size (N p hp).1
  have N0 := News.push F N { cls := .type "tuple_iterator", data := .fields #[.ref l, .int 0 0] }
  have F0 := F.push { cls := .type "tuple_iterator", data := .fields #[.ref l, .int 0 0] }
  have it0 : (s.heap.push { cls := .type "tuple_iterator", data := .fields #[.ref l, .int 0 0] }).IsTupleIter s.heap.objs.size l 0 := ⟨_, Heap.get?_push_size _ rfl, rfl, rfl⟩
  generalize s.heap.objs.size = I at hlt N0 it0 ⊢
  have hoff : ∀ p ∈ news, p.1 ≠ I := fun p hp => Nat.ne_of_lt (hlt p hp)
  refine codeAny_forLoop_any (fun k s' => ∃ h tk m' i o, s' = { s with heap := h, toks := tk } ∧ h.IsTupleIter I l i ∧ Fr h₀ env.locals h m' ∧ News h₀ env.locals h ((I, o) :: news) ∧ J i m' ∧ i ≤ vs.length ∧ k = vs.length + 1 - i) ?_ (vs.length + 1)
    ⟨_, s.toks, m₀, 0, _, rfl, it0, F0, N0, j0, Nat.zero_le _, rfl⟩
  rintro k s' ⟨h, tk, m', i, o, rfl, hit, F', N', hJ, hi, rfl⟩
  by_cases hlt' : i < vs.length
  · refine wpAny_pyNext_tuple_item hit (hls F') (x := vs[i]) (by simp [hlt']) fun h' hit' hs' => ?_
    obtain ⟨o', ho', r⟩ := id hit'
    have F1 := F'.update N' (.head _) hs'
    have N1 := News.setHead N' hoff hs' ho'
    refine letGo_tupleiter hit' ?_
    refine wpAny_mono (step i vs[i] I o' m' h' tk (by simp [hlt']) hJ hlt F1 N1) (fun _ s₂ h₂ => wpAny_mono (wpAny_passesOwn hE h₂) (fun f s₃ p => ?_) fun _ _ e => e) hE
    have back : (∃ h' tk' m', s₃ = { s with heap := h', toks := tk' } ∧ Fr h₀ env.locals h' m' ∧ News h₀ env.locals h' ((I, o') :: news) ∧ J (i + 1) m') →
        ∃ m, m < vs.length + 1 - i ∧ ∃ h tk m' i o, s₃ = { s with heap := h, toks := tk } ∧ h.IsTupleIter I l i ∧ Fr h₀ env.locals h m' ∧ News h₀ env.locals h ((I, o) :: news) ∧ J i m' ∧ i ≤ vs.length ∧ m = vs.length + 1 - i := by
      rintro ⟨h'', tk'', m'', rfl, F'', N'', j⟩
      exact ⟨vs.length + 1 - (i + 1), by omega, h'', tk'', m'', i + 1, o', rfl, ⟨o', (N'' _ (.head _)).1, r⟩, F'', N'', j, hlt', rfl⟩
    cases f with
    | ret v => exact p
    | brk => exact p
    | next => exact back p
    | cont => exact back p
  · have hin : i = vs.length := by omega
    subst hin
    refine wpAny_pyNext_tuple_end hh hit (hls F') (by simp) fun h' hs' => ?_
    have F1 : Fr h₀ env.locals h' m' := ⟨F'.ns.extBut hs' (fun e => (N' _ (.head _)).2.1 e.symm), fun b o e => hs' b o (fun q => by rw [q] at e; have := (N' _ (.head _)).2.2; rw [e] at this; cases this) (F'.keep b o e), F'.above⟩
    have N1 : News h₀ env.locals h' news := fun p hp => ⟨hs' _ _ (hoff p hp) (N' p (.tail _ hp)).1, (N' p (.tail _ hp)).2⟩
    exact wpAny_mono (wpAny_passesOwn hE (fin h' tk m' F1 N1 hJ)) (fun _ _ q => q) fun _ _ e => e
end

end
section

/-! ## S_IFMT, filemode -/
theorem bitAnd_nat (a b : Nat) : Builtin.bitAnd (a : Int) (b : Int) = ((a &&& b : Nat) : Int) := rfl
section
theorem sifmtK (w : World) (M : Nat) (t : Tok) (hM : M &&& 61440 = 32768) (news : Led) :
    Claim w 4 40 779 news [.int (M : Int) t] (fun v l => (∃ t, v = .int 32768 t) ∧ l = news) := by
  intro p loose mean mg mb dp un gd cn cs a ccd cl outer A₀ base h₀ L m s Q E B F X N T hk hdp hun hret
  refine wpAny_call ?_
  k_enter
  repeat' (first | (k_unfold; (try dsimp only)) | walk1 | (dsimp only; walk1) | (leave1; (try dsimp only)))
  have e : Builtin.bitAnd (M : Int) 61440 = 32768 := by
    show Builtin.bitAnd (M : Int) ((61440 : Nat) : Int) = 32768
    rw [bitAnd_nat, hM]; rfl
  rw [e]
  exact hret _ _ _ _ ⟨⟨_, rfl⟩, rfl⟩ (by assumption) (by assumption)
end
def forBody : Stmt → List Stmt
  | .For _ _ b _ _ => b
  | _ => []
def forElse : Stmt → List Stmt
  | .For _ _ _ b _ => b
  | _ => []
def forTgt : Stmt → Expr
  | .For t _ _ _ _ => t
  | _ => .Constant .none 0 default
@[reducible] noncomputable def capIn : { f : Stmt // nth (forBody (nth cap819.1.body 1)) 0 = f } := by
  refine' ⟨_, _⟩
  rotate_left
  conv => lhs; whnf
abbrev fm (P : Addr) (M : Int) (tm : Tok) (vi vt vb vc : Option Value) : Str → Option Value := fun y =>
  if y = Str.ofString "char" then vc else if y = Str.ofString "bit" then vb else if y = Str.ofString "table" then vt else if y = Str.ofString "index" then vi else
  if y = Str.ofString "perm" then some (.ref P) else if y = Str.ofString "mode" then some (.int M tm) else none
theorem fm_in {P : Addr} {M : Int} {tm : Tok} {vi vt vb vc x z : Option Value} : (fun y => if y = Str.ofString "char" then x else if y = Str.ofString "bit" then z else fm P M tm vi vt vb vc y) = fm P M tm vi vt z x := by
  funext y
  by_cases h1 : y = Str.ofString "char"
  · subst h1; rfl
  · by_cases h2 : y = Str.ofString "bit"
    · subst h2; rfl
    · simp only [fm, if_neg h1, if_neg h2]
theorem fm_out {P : Addr} {M : Int} {tm : Tok} {vi vt vb vc x z : Option Value} : (fun y => if y = Str.ofString "table" then x else if y = Str.ofString "index" then z else fm P M tm vi vt vb vc y) = fm P M tm z x vb vc := by
  funext y
  by_cases h1 : y = Str.ofString "char"
  · subst h1; rfl
  · by_cases h2 : y = Str.ofString "bit"
    · subst h2; rfl
    · by_cases h3 : y = Str.ofString "table"
      · subst h3; rfl
      · by_cases h4 : y = Str.ofString "index"
        · subst h4; rfl
        · simp only [fm, if_neg h1, if_neg h2, if_neg h3, if_neg h4]
/-- the sign that a table gives -/
def pickC (M : Nat) : List (Nat × Nat) → Nat
  | [] => 45
  | (b, c) :: r => if M &&& b = b then c else pickC M r
inductive PairsK (K : Frag) : List Value → List (Nat × Nat) → Prop
  | nil : PairsK K [] []
  | cons {a : Addr} {b c : Nat} {tb tc : Tok} {vs : List Value} {ps : List (Nat × Nat)} (h : K.lookup a = some ⟨.type "tuple", none, .seq #[.int (b : Int) tb, .str (strL [c]) tc] 0, #[]⟩) (r : PairsK K vs ps) : PairsK K (.ref a :: vs) ((b, c) :: ps)
theorem PairsK.get {K : Frag} : ∀ {vs : List Value} {ps : List (Nat × Nat)}, PairsK K vs ps → ∀ {i : Nat} {x : Value}, vs[i]? = some x → ∃ a b c tb tc, x = .ref a ∧ ps[i]? = some (b, c) ∧ K.lookup a = some ⟨.type "tuple", none, .seq #[.int (b : Int) tb, .str (strL [c]) tc] 0, #[]⟩
  | _, _, .cons (a := a) h _, 0, x, e => by
    have e : Value.ref a = x := by simpa using e
    exact ⟨_, _, _, _, _, e.symm, rfl, h⟩
  | _, _, .cons _ r, i + 1, x, e => by
    obtain ⟨a, b, c, tb, tc, h1, h2, h3⟩ := r.get (i := i) (by simpa using e)
    exact ⟨a, b, c, tb, tc, h1, by simpa using h2, h3⟩
theorem PairsK.len {K : Frag} : ∀ {vs : List Value} {ps : List (Nat × Nat)}, PairsK K vs ps → vs.length = ps.length
  | _, _, .nil => rfl
  | _, _, .cons _ r => by simp [r.len]
theorem pick_skip {M : Nat} : ∀ {ps : List (Nat × Nat)} {i : Nat}, (∀ j b c, j < i → ps[j]? = some (b, c) → M &&& b ≠ b) → pickC M ps = pickC M (ps.drop i)
  | _, 0, _ => rfl
  | [], _ + 1, _ => rfl
  | (b, c) :: r, i + 1, h => by
    rw [pickC, if_neg (h 0 b c (Nat.zero_lt_succ _) rfl)]
    exact pick_skip fun j b' c' hj e => h (j + 1) b' c' (Nat.succ_lt_succ hj) (by simpa using e)
example {M : Model} {A : Around} {E : Value → Shared → Prop} {s : Shared} {env : Env} {Q : Flow → Shared → Prop} (h : Q .next s) : wpAny M A (execs [] env) Q E s := by
  walk1
  exact h
section
local macro_rules | `(tactic| walk_at "ite") => `(tactic| first | refine ite_bT (by decide) ?_ | refine ite_bF (by decide) ?_ | refine ite_bT (by assumption) ?_ | refine ite_bF (by assumption) ?_)
local macro_rules | `(tactic| walk_at "assign Tuple") => `(tactic| (k_here; (with_reducible show wpAny _ _ (assign (Expr.Tuple _ _ _) _ (Value.ref _)) _ _ _); k_dflt (refine' unpackK ?F ?N ?X ?k ?c ?d ?k1 ?k2 ?k3 ?_; (case F => k_asm); (case N => k_asm); (case X => k_asm); (case k => assumption); (case c => exact rfl); (case d => exact rfl); (case k1 => assumption); (case k2 => exact rfl); (case k3 => exact rfl)); intro h' F' N'; (try k_sweep)))
/-- one turn of the inner loop: a hit appends and leaves, else the ledger stands -/
theorem innerTurn {w : World} {M : Nat} {tm ti tb tc : Tok} {idx b c : Nat} {a L P e1 e2 I : Nat} {A : Around} (hh : A.handled = none) (hidx : (idx : Int) ≠ 0) {vt vb vc : Option Value} {h₀ : Heap} {o o1 o2 : Obj} {acc : Array Value} {cc : Nat} {news : Led} {s : Shared} {Q : Flow → Shared → Prop} {E : Value → Shared → Prop}
    (hp : (K w.params).lookup a = some ⟨.type "tuple", none, .seq #[.int (b : Int) tb, .str (strL [c]) tc] 0, #[]⟩)
    (X : (K w.params).In h₀) (F : Fr h₀ L s.heap (fm P (M : Int) tm (some (.int (idx : Int) ti)) vt vb vc)) (hP1 : e1 ≠ P) (hP2 : e2 ≠ P) (hP3 : I ≠ P) (hPn : ∀ p ∈ news, p.1 ≠ P) (hsz : acc.size < 100)
    (N : News h₀ L s.heap ((I, o) :: (e1, o1) :: (e2, o2) :: (P, W.listOf acc cc) :: news))
    (hit : M &&& b = b → ∀ h' tk' tc' c', Fr h₀ L h' (fm P (M : Int) tm (some (.int (idx : Int) ti)) vt (some (.int (b : Int) tb)) (some (.str (strL [c]) tc))) → News h₀ L h' ((I, o) :: (e1, o1) :: (e2, o2) :: (P, W.listOf (acc.push (.str (strL [c]) tc')) c') :: news) → Q .brk { s with heap := h', toks := tk' })
    (miss : M &&& b ≠ b → ∀ h' tk', Fr h₀ L h' (fm P (M : Int) tm (some (.int (idx : Int) ti)) vt (some (.int (b : Int) tb)) (some (.str (strL [c]) tc))) → News h₀ L h' ((I, o) :: (e1, o1) :: (e2, o2) :: (P, W.listOf acc cc) :: news) → Q .next { s with heap := h', toks := tk' }) :
    wpAny (model PySem.Challenge.pw_oc0295_01 w) A (assign (forTgt capIn.1) (envOf (Str.ofString "filemode") cap819.1.scope L 819 (.ref 818)) (.ref a)) (fun _ s₂ => wpAny (model PySem.Challenge.pw_oc0295_01 w) A (execs (forBody capIn.1) (envOf (Str.ofString "filemode") cap819.1.scope L 819 (.ref 818))) Q E s₂) E s := by
  dsimp only [capIn, forTgt, forBody]
  repeat' (first | (k_unfold; (try dsimp only)) | walk1 | (dsimp only; walk1) | (leave1; (try dsimp only)))
  · exfalso; omega
  · rename Builtin.bitAnd (M : Int) (b : Int) = (b : Int) => e1
    rename Fr h₀ L _ _ => Fx
    dsimp only
    rw [bitAnd_nat] at e1
    exact hit (Int.ofNat.inj e1) _ _ _ _ (fm_in ▸ Fx) (by assumption)
  · rename Builtin.bitAnd (M : Int) (b : Int) ≠ (b : Int) => e1
    rename Fr h₀ L _ _ => Fx
    rw [bitAnd_nat] at e1
    exact miss (fun q => e1 (congrArg Int.ofNat q)) _ _ (fm_in ▸ Fx) (by assumption)
theorem elseTurn {w : World} {M : Nat} {tm ti : Tok} {idx : Nat} {L P e1 e2 : Nat} {A : Around} (hh : A.handled = none) (hidx : (idx : Int) ≠ 0) {vt vb vc : Option Value} {h₀ : Heap} {o1 o2 : Obj} {acc : Array Value} {cc : Nat} {news : Led} {s : Shared} {Q : Flow → Shared → Prop} {E : Value → Shared → Prop}
    (X : (K w.params).In h₀) (F : Fr h₀ L s.heap (fm P (M : Int) tm (some (.int (idx : Int) ti)) vt vb vc)) (hP1 : e1 ≠ P) (hP2 : e2 ≠ P) (hPn : ∀ p ∈ news, p.1 ≠ P) (hsz : acc.size < 100)
    (N : News h₀ L s.heap ((e1, o1) :: (e2, o2) :: (P, W.listOf acc cc) :: news))
    (hret : ∀ h' tk' tc' c', Fr h₀ L h' (fm P (M : Int) tm (some (.int (idx : Int) ti)) vt vb vc) → News h₀ L h' ((e1, o1) :: (e2, o2) :: (P, W.listOf (acc.push (.str (strL [45]) tc')) c') :: news) → Q .next { s with heap := h', toks := tk' }) :
    wpAny (model PySem.Challenge.pw_oc0295_01 w) A (execs (forElse capIn.1) (envOf (Str.ofString "filemode") cap819.1.scope L 819 (.ref 818))) Q E s := by
  dsimp only [capIn, forElse]
  repeat' (first | (k_unfold; (try dsimp only)) | walk1 | (dsimp only; walk1) | (leave1; (try dsimp only)))
  · exfalso; omega
  · rename Fr h₀ L _ _ => Fx
    rename News h₀ L _ _ => Nx
    rw [minus_lit] at Nx
    exact hret _ _ _ _ Fx Nx
theorem innerTurn0 {w : World} {M : Nat} (hM : M &&& 61440 = 32768) {tm ti tb tc : Tok} {b : Int} {c : Nat} {a L P e1 e2 I : Nat} {vt vb vc : Option Value} {h₀ : Heap} {o o1 o2 : Obj} {acc : Array Value} {cc : Nat} {news : Led} {s : Shared} {Q : Flow → Shared → Prop} {E : Value → Shared → Prop}
    {p : Program} {loose : List Str} {mean : ExcName → Option Value} {mg mb : Str → Option Value} {dp un : Nat} {gd : Option (List Code)} {outer : List Env} {A₀ : Around} {base : Heap} (B : Below A₀ base outer h₀) (T : Top p loose mean mg mb h₀) (hdp : dp + 6 < recursionLimit) (hun : un + 50 < cLine)
    (hp : (K w.params).lookup a = some ⟨.type "tuple", none, .seq #[.int b tb, .str (strL [c]) tc] 0, #[]⟩)
    (X : (K w.params).In h₀) (F : Fr h₀ L s.heap (fm P (M : Int) tm (some (.int 0 ti)) vt vb vc)) (hP1 : e1 ≠ P) (hP2 : e2 ≠ P) (hP3 : I ≠ P) (hPn : ∀ p ∈ news, p.1 ≠ P) (hsz : acc.size < 100)
    (N : News h₀ L s.heap ((I, o) :: (e1, o1) :: (e2, o2) :: (P, W.listOf acc cc) :: news))
    (hit : b = 32768 → ∀ h' tk' tc' c', Fr h₀ L h' (fm P (M : Int) tm (some (.int 0 ti)) vt (some (.int b tb)) (some (.str (strL [c]) tc))) → News h₀ L h' ((I, o) :: (e1, o1) :: (e2, o2) :: (P, W.listOf (acc.push (.str (strL [c]) tc')) c') :: news) → Q .brk { s with heap := h', toks := tk' })
    (miss : b ≠ 32768 → ∀ h' tk', Fr h₀ L h' (fm P (M : Int) tm (some (.int 0 ti)) vt (some (.int b tb)) (some (.str (strL [c]) tc))) → News h₀ L h' ((I, o) :: (e1, o1) :: (e2, o2) :: (P, W.listOf acc cc) :: news) → Q .next { s with heap := h', toks := tk' }) :
    wpAny (model PySem.Challenge.pw_oc0295_01 w) (ktrTop dp un gd (Str.ofString "filemode") cap819.1.scope L 819 (.ref 818) [] outer) (assign (forTgt capIn.1) (envOf (Str.ofString "filemode") cap819.1.scope L 819 (.ref 818)) (.ref a)) (fun _ s₂ => wpAny (model PySem.Challenge.pw_oc0295_01 w) (ktrTop dp un gd (Str.ofString "filemode") cap819.1.scope L 819 (.ref 818) [] outer) (execs (forBody capIn.1) (envOf (Str.ofString "filemode") cap819.1.scope L 819 (.ref 818))) Q E s₂) E s := by
  have hh : (ktrTop dp un gd (Str.ofString "filemode") cap819.1.scope L 819 (.ref 818) [] outer).handled = none := rfl
  dsimp only [capIn, forTgt, forBody]
  repeat' (first | (k_here; (with_reducible show wpAny _ _ (call (Value.ref 779) _) _ _ _); k_dflt (refine' (sifmtK _ _ _ (by assumption) _).use ?k1 ?k2 ?k3 ?k4 ?k5 ?k6 ?k7 ?k8 ?_; (case k1 => k_asm); (case k2 => k_asm); (case k3 => k_asm); (case k4 => k_asm); (case k5 => k_asm); (case k6 => first | exact rfl | assumption); (case k7 => k_room); (case k8 => (try dsimp only); omega)); intro v' l' h' tk' hR' F' N'; obtain ⟨⟨t', e1'⟩, e2'⟩ := hR'; subst e1'; rw [e2'] at N'; clear e2'; (try k_sweep)) | (k_unfold; (try dsimp only)) | walk1 | (dsimp only; walk1) | (leave1; (try dsimp only)))
  · rename 32768 = b => e1
    rename Fr h₀ L _ _ => Fx
    dsimp only
    exact hit e1.symm _ _ _ _ (fm_in ▸ Fx) (by assumption)
  · rename 32768 ≠ b => e1
    rename Fr h₀ L _ _ => Fx
    exact miss (Ne.symm e1) _ _ (fm_in ▸ Fx) (by assumption)
end
noncomputable abbrev fenv (L : Addr) : Env := envOf (Str.ofString "filemode") cap819.1.scope L 819 (.ref 818)
theorem innerFor {w : World} {M : Nat} {tm ti : Tok} {idx : Nat} {L P e1 e2 : Nat} {A : Around} (hh : A.handled = none) (hidx : (idx : Int) ≠ 0) {ax : Addr} {vs : List Value} {ps : List (Nat × Nat)} {vb vc : Option Value} {h₀ : Heap} {o1 o2 : Obj} {acc : Array Value} {cc : Nat} {news : Led} {s : Shared} {E : Value → Shared → Prop}
    (X : (K w.params).In h₀) (hax : (K w.params).lookup ax = some ⟨.type "tuple", none, .seq vs.toArray 0, #[]⟩) (hps : PairsK (K w.params) vs ps)
    (F : Fr h₀ L s.heap (fm P (M : Int) tm (some (.int (idx : Int) ti)) (some (.ref ax)) vb vc)) (hP1 : e1 ≠ P) (hP2 : e2 ≠ P) (hPn : ∀ p ∈ news, p.1 ≠ P) (hsz : acc.size < 100)
    (N : News h₀ L s.heap ((e1, o1) :: (e2, o2) :: (P, W.listOf acc cc) :: news)) (hE : PassesOwn (model PySem.Challenge.pw_oc0295_01 w) A (fenv L) E) :
    wpAny (model PySem.Challenge.pw_oc0295_01 w) A (exec capIn.1 (fenv L)) (fun f s' => f = .next ∧ ∃ h' tk' vb vc tc c', s' = { s with heap := h', toks := tk' } ∧ Fr h₀ L h' (fm P (M : Int) tm (some (.int (idx : Int) ti)) (some (.ref ax)) vb vc) ∧
      News h₀ L h' ((e1, o1) :: (e2, o2) :: (P, W.listOf (acc.push (.str (strL [pickC M ps]) tc)) c') :: news)) E s := by
  refine tupElse (env := fenv L) (l := ax) (vs := vs) hh F N (X _ _ hax) rfl rfl (fun Q' h => ld F rfl h) (fun j m' => ∃ vb vc, m' = fm P (M : Int) tm (some (.int (idx : Int) ti)) (some (.ref ax)) vb vc ∧ ∀ j' b c, j' < j → ps[j']? = some (b, c) → M &&& b ≠ b) ⟨vb, vc, rfl, fun _ _ _ h => absurd h (Nat.not_lt_zero _)⟩ ?_ ?_ (by intro _; rfl) hE
  · rintro i x I o m₁ h₁ tk₁ hx ⟨vb, vc, rfl, hj⟩ hlt F₁ N₁
    obtain ⟨a, b, c, tb, tc, rfl, hp, hk⟩ := hps.get hx
    have hI : I ≠ P := fun e => by
      have := hlt (P, W.listOf acc cc) (.tail _ (.tail _ (.head _)))
      rw [e] at this
      exact Nat.lt_irrefl _ this
    refine innerTurn hh hidx hk X F₁ hP1 hP2 hI hPn hsz N₁ (fun e h' tk' tc' c' F' N' => ?_) fun e h' tk' F' N' => ?_
    · refine ⟨rfl, h', tk', _, _, tc', c', rfl, F', fun q hq => ?_⟩
      rw [pick_skip hj, List.drop_eq_getElem?_toList_append, hp] at hq
      simp only [Option.toList_some, List.singleton_append, pickC, e, if_true] at hq
      exact N' q (.tail _ hq)
    · refine ⟨h', tk', _, rfl, F', N', _, _, rfl, fun j' b' c' hj' e' => ?_⟩
      rcases Nat.lt_or_eq_of_le (Nat.le_of_lt_succ hj') with h | h
      · exact hj j' b' c' h e'
      · subst h
        rw [hp] at e'
        have := Option.some.inj e'
        have hb : b = b' := congrArg Prod.fst this
        rw [← hb]
        exact e
  · rintro h tk m' F' N' ⟨vb, vc, rfl, hj⟩
    refine elseTurn hh hidx X F' hP1 hP2 hPn hsz N' fun h' tk' tc' c' F'' N'' => ?_
    refine ⟨rfl, h', tk', _, _, tc', c', rfl, F'', ?_⟩
    rw [pick_skip hj, hps.len, List.drop_length]
    exact N''
theorem innerFor0 {w : World} {M : Nat} (hM : M &&& 61440 = 32768) {tm ti : Tok} {L P e1 e2 : Nat} {vb vc : Option Value} {h₀ : Heap} {o1 o2 : Obj} {acc : Array Value} {cc : Nat} {news : Led} {s : Shared} {E : Value → Shared → Prop}
    {p : Program} {loose : List Str} {mean : ExcName → Option Value} {mg mb : Str → Option Value} {dp un : Nat} {gd : Option (List Code)} {outer : List Env} {A₀ : Around} {base : Heap} (B : Below A₀ base outer h₀) (T : Top p loose mean mg mb h₀) (hdp : dp + 6 < recursionLimit) (hun : un + 50 < cLine)
    (X : (K w.params).In h₀)
    (F : Fr h₀ L s.heap (fm P (M : Int) tm (some (.int 0 ti)) (some (.ref 787)) vb vc)) (hP1 : e1 ≠ P) (hP2 : e2 ≠ P) (hPn : ∀ p ∈ news, p.1 ≠ P) (hsz : acc.size < 100)
    (N : News h₀ L s.heap ((e1, o1) :: (e2, o2) :: (P, W.listOf acc cc) :: news)) (hE : PassesOwn (model PySem.Challenge.pw_oc0295_01 w) (ktrTop dp un gd (Str.ofString "filemode") cap819.1.scope L 819 (.ref 818) [] outer) (fenv L) E) :
    wpAny (model PySem.Challenge.pw_oc0295_01 w) (ktrTop dp un gd (Str.ofString "filemode") cap819.1.scope L 819 (.ref 818) [] outer) (exec capIn.1 (fenv L)) (fun f s' => f = .next ∧ ∃ h' tk' vb vc tc c', s' = { s with heap := h', toks := tk' } ∧ Fr h₀ L h' (fm P (M : Int) tm (some (.int 0 ti)) (some (.ref 787)) vb vc) ∧
      News h₀ L h' ((e1, o1) :: (e2, o2) :: (P, W.listOf (acc.push (.str (strL [45]) tc)) c') :: news)) E s := by
  refine tupElse (env := fenv L) (l := 787) (vs := [.ref 780, .ref 781, .ref 782, .ref 783, .ref 784, .ref 785, .ref 786]) (n := 0) rfl F N (X 787 _ rfl) rfl rfl (fun Q' h => ld F rfl h) (fun j m' => j ≤ 2 ∧ ∃ vb vc, m' = fm P (M : Int) tm (some (.int 0 ti)) (some (.ref 787)) vb vc) ⟨by decide, vb, vc, rfl⟩ ?_ ?_ (by intro _; rfl) hE
  · rintro i x I o m₁ h₁ tk₁ hx ⟨hi, vb, vc, rfl⟩ hlt F₁ N₁
    have hI : I ≠ P := fun e => by
      have := hlt (P, W.listOf acc cc) (.tail _ (.tail _ (.head _)))
      rw [e] at this
      exact Nat.lt_irrefl _ this
    match i, hi, hx with
    | 0, _, hx =>
      obtain rfl : Value.ref 780 = x := by simpa using hx
      exact innerTurn0 hM B T hdp hun (c := 108) (show (K w.params).lookup 780 = some ⟨.type "tuple", none, .seq #[.int 40960 1371, .str (strL [108]) 1399] 0, #[]⟩ from rfl) X F₁ hP1 hP2 hI hPn hsz N₁ (fun e => absurd e (by decide)) fun _ h' tk' F' N' => ⟨h', tk', _, rfl, F', N', by decide, _, _, rfl⟩
    | 1, _, hx =>
      obtain rfl : Value.ref 781 = x := by simpa using hx
      exact innerTurn0 hM B T hdp hun (c := 115) (show (K w.params).lookup 781 = some ⟨.type "tuple", none, .seq #[.int 49152 1373, .str (strL [115]) 1400] 0, #[]⟩ from rfl) X F₁ hP1 hP2 hI hPn hsz N₁ (fun e => absurd e (by decide)) fun _ h' tk' F' N' => ⟨h', tk', _, rfl, F', N', by decide, _, _, rfl⟩
    | 2, _, hx =>
      obtain rfl : Value.ref 782 = x := by simpa using hx
      exact innerTurn0 hM B T hdp hun (c := 45) (show (K w.params).lookup 782 = some ⟨.type "tuple", none, .seq #[.int 32768 1367, .str (strL [45]) 1401] 0, #[]⟩ from rfl) X F₁ hP1 hP2 hI hPn hsz N₁ (fun e h' tk' tc' c' F' N' => ⟨rfl, h', tk', _, _, tc', c', rfl, F', fun q hq => N' q (.tail _ hq)⟩) fun e => absurd rfl e
  · rintro h tk m' F' N' ⟨hj, _⟩
    exact absurd hj (by decide)

end
section

/-! ## filemode -/
theorem fm_start {P : Addr} {M : Int} {tm : Tok} : (fun y : Str => if y = Str.ofString "perm" then some (Value.ref P) else List.lookup y [(Str.ofString "mode", Value.int M tm)]) = fm P M tm none none none none := by
  funext y
  by_cases h1 : y = Str.ofString "char"
  · subst h1; rfl
  · by_cases h2 : y = Str.ofString "bit"
    · subst h2; rfl
    · by_cases h3 : y = Str.ofString "table"
      · subst h3; rfl
      · by_cases h4 : y = Str.ofString "index"
        · subst h4; rfl
        · by_cases h5 : y = Str.ofString "perm"
          · subst h5; rfl
          · by_cases h6 : y = Str.ofString "mode"
            · subst h6; rfl
            · have : (y == Str.ofString "mode") = false := beq_eq_false_iff_ne.mpr h6
              simp only [fm, if_neg h1, if_neg h2, if_neg h3, if_neg h4, if_neg h5, if_neg h6, List.lookup, this]
theorem fm_conv {h₀ h : Heap} {L P : Addr} {M : Int} {tm : Tok} {m' : Str → Option Value} (F : Fr h₀ L h m') (e : m' = fun y : Str => if y = Str.ofString "perm" then some (Value.ref P) else List.lookup y [(Str.ofString "mode", Value.int M tm)]) : Fr h₀ L h (fm P M tm none none none none) := by
  rw [← fm_start, ← e]
  exact F
def tabD : List (List (Nat × Nat)) := [[(256, 114)], [(128, 119)], [(2112, 115), (2048, 83), (64, 120)], [(32, 114)], [(16, 119)], [(1032, 115), (1024, 83), (8, 120)], [(4, 114)], [(2, 119)], [(513, 116), (512, 84), (1, 120)]]
/-- the ten signs that filemode gives to a plain file's mode -/
def signs (M : Nat) : List Nat := 45 :: tabD.map (pickC M)
def tabRefs : List Value := [.ref 787, .ref 789, .ref 791, .ref 795, .ref 797, .ref 799, .ref 803, .ref 805, .ref 807, .ref 811]
theorem one_pair {K : Frag} {a b c : Nat} {tb tc : Tok} (h : K.lookup a = some ⟨.type "tuple", none, .seq #[.int (b : Int) tb, .str (strL [c]) tc] 0, #[]⟩) : PairsK K [.ref a] [(b, c)] := .cons h .nil
theorem three_pairs {K : Frag} {a b c a' b' c' a'' b'' c'' : Nat} {tb tc tb' tc' tb'' tc'' : Tok} (h : K.lookup a = some ⟨.type "tuple", none, .seq #[.int (b : Int) tb, .str (strL [c]) tc] 0, #[]⟩)
    (h' : K.lookup a' = some ⟨.type "tuple", none, .seq #[.int (b' : Int) tb', .str (strL [c']) tc'] 0, #[]⟩) (h'' : K.lookup a'' = some ⟨.type "tuple", none, .seq #[.int (b'' : Int) tb'', .str (strL [c'']) tc''] 0, #[]⟩) : PairsK K [.ref a, .ref a', .ref a''] [(b, c), (b', c'), (b'', c'')] := .cons h (.cons h' (.cons h'' .nil))
theorem tabK {w : World} {i : Nat} {x : Value} (h : tabRefs[i + 1]? = some x) : ∃ ax vs ps, x = .ref ax ∧ (K w.params).lookup ax = some ⟨.type "tuple", none, .seq vs.toArray 0, #[]⟩ ∧ PairsK (K w.params) vs ps ∧ tabD[i]? = some ps := by
  match i, h with
  | 0, h => obtain rfl : Value.ref 789 = x := by simpa [tabRefs] using h
            exact ⟨789, [.ref 788], _, rfl, rfl, one_pair (tb := 1381) (tc := 1406) rfl, rfl⟩
  | 1, h => obtain rfl : Value.ref 791 = x := by simpa [tabRefs] using h
            exact ⟨791, [.ref 790], _, rfl, rfl, one_pair (tb := 1383) (tc := 1407) rfl, rfl⟩
  | 2, h => obtain rfl : Value.ref 795 = x := by simpa [tabRefs] using h
            exact ⟨795, [.ref 792, .ref 793, .ref 794], _, rfl, rfl, three_pairs (tb := 1408) (tc := 1409) (tb' := 1375) (tc' := 1410) (tb'' := 1385) (tc'' := 1411) rfl rfl rfl, rfl⟩
  | 3, h => obtain rfl : Value.ref 797 = x := by simpa [tabRefs] using h
            exact ⟨797, [.ref 796], _, rfl, rfl, one_pair (tb := 1387) (tc := 1412) rfl, rfl⟩
  | 4, h => obtain rfl : Value.ref 799 = x := by simpa [tabRefs] using h
            exact ⟨799, [.ref 798], _, rfl, rfl, one_pair (tb := 1389) (tc := 1413) rfl, rfl⟩
  | 5, h => obtain rfl : Value.ref 803 = x := by simpa [tabRefs] using h
            exact ⟨803, [.ref 800, .ref 801, .ref 802], _, rfl, rfl, three_pairs (tb := 1414) (tc := 1415) (tb' := 1377) (tc' := 1416) (tb'' := 1391) (tc'' := 1417) rfl rfl rfl, rfl⟩
  | 6, h => obtain rfl : Value.ref 805 = x := by simpa [tabRefs] using h
            exact ⟨805, [.ref 804], _, rfl, rfl, one_pair (tb := 1393) (tc := 1418) rfl, rfl⟩
  | 7, h => obtain rfl : Value.ref 807 = x := by simpa [tabRefs] using h
            exact ⟨807, [.ref 806], _, rfl, rfl, one_pair (tb := 1395) (tc := 1419) rfl, rfl⟩
  | 8, h => obtain rfl : Value.ref 811 = x := by simpa [tabRefs] using h
            exact ⟨811, [.ref 808, .ref 809, .ref 810], _, rfl, rfl, three_pairs (tb := 1420) (tc := 1421) (tb' := 1379) (tc' := 1422) (tb'' := 1397) (tc'' := 1423) rfl rfl rfl, rfl⟩
  | n + 9, h => simp [tabRefs] at h
theorem StrVs.snoc {x : List Nat} {t : Tok} : ∀ {ws : List (List Nat)} {vs : List Value}, StrVs ws vs → StrVs (ws ++ [x]) (vs ++ [.str (strL x) t])
  | _, _, .nil => .cons .nil
  | _, _, .cons h => .cons h.snoc
theorem StrVs.pairs : ∀ {ws : List (List Nat)} {vs : List Value}, StrVs ws vs → ∃ l : List (Str × Tok), strValues l = vs ∧ l.map (·.1) = ws.map strL
  | _, _, .nil => ⟨[], rfl, rfl⟩
  | _, _, .cons (x := x) (t := t) h => by
    obtain ⟨l, h1, h2⟩ := h.pairs
    exact ⟨(strL x, t) :: l, by rw [← h1]; rfl, by rw [List.map_cons, h2]; rfl⟩
/-- sep.join(a list of texts) -/
theorem joinListK {prog : Program} {w : World} {A : Around} {E : Value → Shared → Prop} {s : Shared} {h₀ : Heap} {L P : Addr} {news : Led} {sep : Str} {t : Tok} {o : Obj} {ws : List (List Nat)} {vs : List Value} {c : Nat} {Q : Value → Shared → Prop} (N : News h₀ L s.heap news) (hm : (P, o) ∈ news) (hc : o.cls = .type "list") (hd : o.data = .seq vs.toArray c)
    (hv : StrVs ws vs) (hok : JoinOk sep (ws.map strL) = true) (h : ∀ t' k, Q (.str (Txt.join sep (ws.map strL)) t') { s with toks := k }) : wpAny (model prog w) A (call (.builtin "str.join") [.str sep t, .ref P]) Q E s := by
  obtain ⟨l, h1, h2⟩ := hv.pairs
  exact SC.join (l := l) ⟨o, (N _ hm).1, hc, c, by rw [h1]; exact hd⟩ h2 hok h
theorem e_join : ∀ (l : List Nat), Txt.join (Str.ofString "") ((l.map fun c => [c]).map strL) = strL l := by
  have key : ∀ (l : List Nat), Str.join (Str.ofString "") ((l.map fun c => [c]).map strL) = strL l := by
    intro l
    induction l with
    | nil => decide +kernel
    | cons a r ih =>
      cases r with
      | nil => rfl
      | cons b r =>
        show strL [a] ++ Str.ofString "" ++ Str.join (Str.ofString "") (((b :: r).map fun c => [c]).map strL) = strL (a :: b :: r)
        rw [ih, e_lit, strL_cat, strL_cat]
        rfl
  exact fun l => (StrLaws.glued_eq_join _ _).trans (key l)
theorem e_ok : ∀ (l : List Nat), l.length < 100 → JoinOk (Str.ofString "") ((l.map fun c => [c]).map strL) = true := by
  have key : ∀ (l : List Nat) (a : Nat), ((l.map fun c => [c]).map strL).foldl (fun a x => a + x.length + 0) a = a + l.length := by
    intro l
    induction l with
    | nil => intro a; simp
    | cons b r ih =>
      intro a
      simp only [List.map_cons, List.foldl_cons, List.length_cons]
      rw [ih, strL_len]
      simp; omega
  intro l hl
  have e : (Str.ofString "").length = 0 := by decide +kernel
  unfold JoinOk
  rw [e, List.foldl_toArray, key]
  unfold Builtin.Str.tooLong
  rw [Bool.not_eq_true', decide_eq_false_iff_not]
  have h3 : 300 ≤ sizeLine := by decide
  omega
theorem innerForC {w : World} {M : Nat} {tm ti : Tok} {idx : Int} {L P e1 e2 : Nat} {A : Around} {ax : Addr} {vs : List Value} {ps : List (Nat × Nat)} {vb vc : Option Value} {h₀ : Heap} {o1 o2 : Obj} {acc : Array Value} {cc : Nat} {news : Led} {s : Shared} {Q : Flow → Shared → Prop} {E : Value → Shared → Prop}
    (hh : A.handled = none) (hidx : ∃ n : Nat, idx = (n + 1 : Nat)) (X : (K w.params).In h₀) (hax : (K w.params).lookup ax = some ⟨.type "tuple", none, .seq vs.toArray 0, #[]⟩) (hps : PairsK (K w.params) vs ps)
    (F : Fr h₀ L s.heap (fm P (M : Int) tm (some (.int idx ti)) (some (.ref ax)) vb vc)) (hP1 : e1 ≠ P) (hP2 : e2 ≠ P) (hPn : ∀ p ∈ news, p.1 ≠ P) (hsz : acc.size < 100)
    (N : News h₀ L s.heap ((e1, o1) :: (e2, o2) :: (P, W.listOf acc cc) :: news)) (hE : PassesOwn (model PySem.Challenge.pw_oc0295_01 w) A (fenv L) E)
    (h : ∀ h' tk' vb vc tc c', Fr h₀ L h' (fm P (M : Int) tm (some (.int idx ti)) (some (.ref ax)) vb vc) → News h₀ L h' ((e1, o1) :: (e2, o2) :: (P, W.listOf (acc.push (.str (strL [pickC M ps]) tc)) c') :: news) → Q .next { s with heap := h', toks := tk' }) :
    wpAny (model PySem.Challenge.pw_oc0295_01 w) A (exec capIn.1 (fenv L)) Q E s := by
  obtain ⟨n, rfl⟩ := hidx
  refine wpAny_mono (innerFor hh (by omega) X hax hps F hP1 hP2 hPn hsz N hE) (fun f s' hf => ?_) fun _ _ e => e
  obtain ⟨rfl, h', tk', vb', vc', tc, c', rfl, F', N'⟩ := hf
  exact h _ _ _ _ _ _ F' N'
theorem innerFor0C {w : World} {M : Nat} {tm ti : Tok} {L P e1 e2 : Nat} {vb vc : Option Value} {h₀ : Heap} {o1 o2 : Obj} {acc : Array Value} {cc : Nat} {news : Led} {s : Shared} {Q : Flow → Shared → Prop} {E : Value → Shared → Prop}
    {p : Program} {loose : List Str} {mean : ExcName → Option Value} {mg mb : Str → Option Value} {dp un : Nat} {gd : Option (List Code)} {outer : List Env} {A₀ : Around} {base : Heap} (hM : M &&& 61440 = 32768) (B : Below A₀ base outer h₀) (T : Top p loose mean mg mb h₀) (hdp : dp + 6 < recursionLimit) (hun : un + 50 < cLine)
    (X : (K w.params).In h₀)
    (F : Fr h₀ L s.heap (fm P (M : Int) tm (some (.int 0 ti)) (some (.ref 787)) vb vc)) (hP1 : e1 ≠ P) (hP2 : e2 ≠ P) (hPn : ∀ p ∈ news, p.1 ≠ P) (hsz : acc.size < 100)
    (N : News h₀ L s.heap ((e1, o1) :: (e2, o2) :: (P, W.listOf acc cc) :: news)) (hE : PassesOwn (model PySem.Challenge.pw_oc0295_01 w) (ktrTop dp un gd (Str.ofString "filemode") cap819.1.scope L 819 (.ref 818) [] outer) (fenv L) E)
    (h : ∀ h' tk' vb vc tc c', Fr h₀ L h' (fm P (M : Int) tm (some (.int 0 ti)) (some (.ref 787)) vb vc) → News h₀ L h' ((e1, o1) :: (e2, o2) :: (P, W.listOf (acc.push (.str (strL [45]) tc)) c') :: news) → Q .next { s with heap := h', toks := tk' }) :
    wpAny (model PySem.Challenge.pw_oc0295_01 w) (ktrTop dp un gd (Str.ofString "filemode") cap819.1.scope L 819 (.ref 818) [] outer) (exec capIn.1 (fenv L)) Q E s := by
  refine wpAny_mono (innerFor0 hM B T hdp hun X F hP1 hP2 hPn hsz N hE) (fun f s' hf => ?_) fun _ _ e => e
  obtain ⟨rfl, h', tk', vb', vc', tc, c', rfl, F', N'⟩ := hf
  exact h _ _ _ _ _ _ F' N'
example {M : Model} {A : Around} {E : Value → Shared → Prop} {s : Shared} {env : Env} {Q : Flow → Shared → Prop} (h : Q .next s) : wpAny M A (execs [] env) Q E s := by
  walk1
  exact h
section
local macro_rules | `(tactic| walk_at "exec For Tuple Call cons nil") => `(tactic| (k_here; (rename Fr _ _ _ _ => lF'); (with_unfolding_all refine' For_turns lF' ?_; k_whole)))
theorem filemodeK (w : World) (M : Nat) (t : Tok) (hM : M &&& 61440 = 32768) (news : Led) :
    Claim w 16 80 819 news [.int (M : Int) t] (fun v l => (∃ t, v = .str (strL (signs M)) t) ∧ l = news) := by
  intro p loose mean mg mb dp un gd cn cs a ccd cl outer A₀ base h₀ L m s Q E B F X N T hk hdp hun hret
  refine wpAny_call ?_
  k_enter
  repeat' (first | (k_here; (with_reducible show wpAny _ _ (call (Value.builtin "str.join") [Value.str _ _, Value.ref _]) _ _ _); (rename StrVs _ _ => hS'); k_dflt (refine' joinListK ?k1 ?k2 ?k3 ?k4 hS' ?k5 ?_; (case k1 => k_asm); (case k2 => k_mem); (case k3 => exact rfl); (case k4 => exact rfl); (case k5 => assumption)); intro t' k'; (try k_sweep)) | (k_unfold; (try dsimp only)) | walk1 | (dsimp only; walk1) | (leave1; (try dsimp only)))
  rename Fr _ _ _ _ => F1
  rename News _ _ _ _ => N1
  rename Top _ _ _ _ _ _ => T1
  rename Below _ _ _ _ => B1
  rename Frag.In _ _ => X1
  rename (∀ q : Addr × Obj, q ∈ news → q.fst < _) => l1
  rename_i g1 L1 hq2 FG1 tk0 P hq1 hq0
  have F2 := fm_conv (P := P) (M := (M : Int)) (tm := t) F1 rfl
  have hPn : ∀ q ∈ news, q.1 ≠ P := fun q hq => Nat.ne_of_lt (l1 q hq)
  refine' enumLoop (env := fenv L1) (l := 812) (lo := ⟨.type "tuple", none, .seq tabRefs.toArray 0, #[]⟩) (vs := tabRefs) (n := 0) (m₀ := fm P (M : Int) t none none none none) (news := (P, W.listOf #[] 0) :: news) ?hh ?hF ?hN ?hg ?hc ?hd (fun i m' n' => ∃ vi vt vb vc vs c, m' = fm P (M : Int) t vi vt vb vc ∧ n' = (P, W.listOf (List.toArray vs) c) :: news ∧ StrVs (((signs M).take i).map fun c => [c]) vs) ?j0 ?_ ?_
  case hh => exact rfl
  case hF => exact F2
  case hN => exact N1
  case hg => exact X1 812 _ rfl
  case hc => exact rfl
  case hd => exact rfl
  case j0 => exact ⟨none, none, none, none, [], 0, rfl, rfl, .nil⟩
  · rintro i x T ti I m₁ news₁ h₁ tk₁ o1 o2 hx ⟨vi, vt, vb, vc, vs, c, rfl, rfl, hv⟩ hT F₁ hoff N₁
    have hP := hoff _ (.head _)
    have hi : i < 10 := by
      by_cases h : i < 10
      · exact h
      · rw [List.getElem?_eq_none (by simpa [tabRefs] using h)] at hx; cases hx
    have hsz : vs.toArray.size < 100 := by
      have := hv.len
      simp only [List.length_map, List.length_take] at this
      rw [List.size_toArray]; omega
    clear N1 F1 F2
    iterate 10 (first | (k_here; (with_reducible show wpAny _ _ (call (Value.builtin "str.join") [Value.str _ _, Value.ref _]) _ _ _); (rename StrVs _ _ => hS'); k_dflt (refine' joinListK ?k1 ?k2 ?k3 ?k4 hS' ?k5 ?_; (case k1 => k_asm); (case k2 => k_mem); (case k3 => exact rfl); (case k4 => exact rfl); (case k5 => assumption)); intro t' k'; (try k_sweep)) | (k_unfold; (try dsimp only)) | walk1 | (dsimp only; walk1) | (leave1; (try dsimp only)))
    rename Fr _ _ _ _ => F3
    rename News _ _ _ _ => N3
    have F4 := fm_out ▸ F3
    have hoff' : ∀ (v : Value) (c' : Nat), ∀ q ∈ (P, W.listOf (vs.toArray.push v) c') :: news, q.1 ≠ I ∧ q.1 ≠ I + 1 := fun v c' q hq => by
      rcases List.mem_cons.mp hq with rfl | hq
      · exact hP
      · exact hoff q (.tail _ hq)
    have hv' : ∀ x t, (signs M)[i]? = some x → StrVs (((signs M).take (i + 1)).map fun c => [c]) (vs ++ [.str (strL [x]) t]) := fun x t e => by
      rw [List.take_add_one, e]
      simp only [Option.toList_some, List.map_append, List.map_cons, List.map_nil]
      exact hv.snoc
    have hpush : ∀ v : Value, vs.toArray.push v = List.toArray (vs ++ [v]) := fun v => by simp
    match i, hx, hv' with
    | 0, hx, hv' =>
      obtain rfl : Value.ref 787 = x := by simpa [tabRefs] using hx
      refine' innerFor0C (P := P) (M := M) ?a1 ?a2 ?a3 ?a4 ?a5 ?a6 ?a7 ?a8 ?a9 ?b1 ?b2 ?b3 ?b4 ?_
      case a1 => exact hM
      case a2 => exact B1
      case a3 => exact T1
      case a4 => show dp + 1 + 6 < recursionLimit; omega
      case a5 => show un + 3 + 50 < cLine; omega
      case a6 => exact X1
      case a7 => exact F4
      case b3 => exact N3
      case a8 => exact fun e => hP.2 e.symm
      case a9 => exact fun e => hP.1 e.symm
      case b1 => exact hPn
      case b2 => exact hsz
      case b4 => passes_own
      intro h' tk' vb' vc' tc c' F' N'
      exact wpAny_execs_nil ⟨h', tk', _, _, rfl, F', N', hoff' _ _, _, _, _, _, _, _, rfl, by rw [hpush], hv' 45 tc rfl⟩
    | i + 1, hx, hv' =>
      obtain ⟨ax, vs', ps, rfl, hk1, hk2, hk3⟩ := tabK (w := w) hx
      refine' innerForC (P := P) (M := M) ?za1 ?za2 ?za3 ?za4 ?za5 ?za6 ?za7 ?za8 ?za9 ?zb1 ?zb2 ?zb3 ?_
      case za1 => exact rfl
      case za3 => exact X1
      case za6 => exact F4
      case za2 => exact ⟨i, rfl⟩
      case za4 => exact hk1
      case za5 => exact hk2
      case zb2 => exact N3
      case za7 => exact fun e => hP.2 e.symm
      case za8 => exact fun e => hP.1 e.symm
      case za9 => exact hPn
      case zb1 => exact hsz
      case zb3 => passes_own
      intro h' tk' vb' vc' tc c' F' N'
      refine wpAny_execs_nil ⟨h', tk', _, _, rfl, F', N', hoff' _ _, _, _, _, _, _, _, rfl, by rw [hpush], hv' _ tc ?_⟩
      show (tabD.map (pickC M))[i]? = _
      rw [List.getElem?_map, hk3]
      rfl
  · rintro h tk m' news' F' N' ⟨vi, vt, vb, vc, vs, c, rfl, rfl, hv⟩
    have hv : StrVs ((signs M).map fun c => [c]) vs := by
      have e : (signs M).take tabRefs.length = signs M := rfl
      rw [← e]; exact hv
    have hok := e_ok (signs M) (by show (10 : Nat) < 100; decide)
    clear N1 F1 F2
    repeat' (first | (k_here; (with_reducible show wpAny _ _ (call (Value.builtin "str.join") [Value.str _ _, Value.ref _]) _ _ _); (rename StrVs _ _ => hS'); k_dflt (refine' joinListK ?k1 ?k2 ?k3 ?k4 hS' ?k5 ?_; (case k1 => k_asm); (case k2 => k_mem); (case k3 => exact rfl); (case k4 => exact rfl); (case k5 => assumption)); intro t' k'; (try k_sweep)) | (k_unfold; (try dsimp only)) | walk1 | (dsimp only; walk1) | (leave1; (try dsimp only)))
    rw [e_join]
    exact hret _ _ _ _ ⟨⟨_, rfl⟩, rfl⟩ (by assumption) (news_tl (by assumption))
end

end
section

/-! ## _law_figures -/
def sl3 (x : Str) (i : Nat) : Str := Txt.slice x (some (3 * (i : Int) + 1)) (some (3 * (i : Int) + 4))
def figAt (x : Str) (i : Nat) : Int := (bif Txt.item (sl3 x i) 0 == Str.ofString "r" then 4 else 0) + (bif Txt.item (sl3 x i) 1 == Str.ofString "w" then 2 else 0) +
  (bif !(Builtin.Str.occurrences (Str.ofString "xst") (Txt.item (sl3 x i) 2) 0 (Str.ofString "xst").length 1).isEmpty then 1 else 0)
def topAt (x : Str) (i : Nat) : Int := bif !(Builtin.Str.occurrences (Str.ofString "SsTt") (Txt.item (sl3 x i) 2) 0 (Str.ofString "SsTt").length 1).isEmpty then 1 else 0
structure IfIs (c : Bool) (k1 k2 n : Int) : Prop where
  eq : n = bif c then k1 else k2
theorem ifexp_int {M : Model} {A : Around} {E : Value → Shared → Prop} {s : Shared} {env : Env} {test : Expr} {k1 k2 : Int} {n1 n2 : Nat} {p1 p2 pos : Pos} {Q : Value → Shared → Prop} (hk : k2 ≤ k1)
    (h : wpAny M A (isTrue test env (eval test env)) (fun c s₂ => ∀ n, IfIs c k1 k2 n → k2 ≤ n → n ≤ k1 → Q (.int n s₂.toks) { s₂ with toks := s₂.toks + 1 }) E s) :
    wpAny M A (eval (.IfExp test (.Constant (.int k1) n1 p1) (.Constant (.int k2) n2 p2) pos) env) Q E s :=
  IfExp_ (wpAny_mono h (fun c s₂ h₂ => by
    cases c with
    | true => exact wpAny_Constant_int (h₂ _ ⟨rfl⟩ hk (Int.le_refl _))
    | false => exact wpAny_Constant_int (h₂ _ ⟨rfl⟩ (Int.le_refl _) hk)) fun _ _ e => e)
theorem bif_le (c : Bool) {a b : Int} (h : b ≤ a) : b ≤ (bif c then a else b) ∧ (bif c then a else b) ≤ a := by
  cases c
  · exact ⟨Int.le_refl _, h⟩
  · exact ⟨h, Int.le_refl _⟩
theorem news_drop2 {h₀ h : Heap} {L : Addr} {e a b : Addr × Obj} {news : Led} (N : News h₀ L h (e :: a :: b :: news)) : News h₀ L h (e :: news) := news_sub N fun q hq => by
  rcases List.mem_cons.mp hq with h | h
  · rw [h]; exact .head _
  · exact .tail _ (.tail _ (.tail _ h))
theorem allLt_out {d : Addr} {l : Led} (h : AllLt d l) : ∀ p ∈ l, p.1 < d := by
  induction l with
  | nil => intro p hp; cases hp
  | cons q r ih =>
    intro p hp
    have h' : @LT.lt Nat _ q.1 d ∧ AllLt d r := h
    rcases List.mem_cons.mp hp with e | hp
    · rw [e]; exact h'.1
    · exact ih h'.2 p hp
@[reducible] noncomputable def capF : { f : Stmt // nth cap840.1.body 2 = f } := by
  refine' ⟨_, _⟩
  rotate_left
  conv => lhs; whnf
noncomputable abbrev figEnv (L : Addr) : Env := envOf (Str.ofString "_law_figures") cap840.1.scope L 840 (.ref 839)
theorem bif_in (c : Bool) : 0 ≤ (bif c then (1 : Int) else 0) ∧ (bif c then (1 : Int) else 0) ≤ 1 := by cases c <;> decide
example {M : Model} {A : Around} {E : Value → Shared → Prop} {s : Shared} {env : Env} {Q : Flow → Shared → Prop} (h : Q .next s) : wpAny M A (execs [] env) Q E s := by
  walk1
  exact h
section
local macro_rules | `(tactic| walk_at "eval IfExp") => `(tactic| with_reducible refine ifexp_int (by decide) ?_)
local macro_rules | `(tactic| walk_at "eval Name") => `(tactic| (k_here; (rename Fr _ _ _ _ => lF'); refine nameX_L lF' (by assumption) ?_))
local macro_rules | `(tactic| walk_at "subscriptTail Name Constant str int") => `(tactic| (refine' item_str ?g0 ?g1 ?g2 ?_; (case g0 => decide); (case g1 => omega); (case g2 => omega); intro _))
/-- one turn of the loop -/
theorem figTurn {w : World} {x : Str} {t tp ta : Tok} {i : Nat} {A₁ : Int} {I P L : Addr} {o : Obj} {A : Around} {h₀ : Heap} {m : Str → Option Value} {acc : Array Value} {c : Nat} {news : Led} {s : Shared} {Q : Flow → Shared → Prop} {E : Value → Shared → Prop}
    (X : (K w.params).In h₀) (F : Fr h₀ L s.heap m) (N : News h₀ L s.heap ((I, o) :: (P, W.listOf acc c) :: news)) (hIP : I ≠ P) (hPn : ∀ q ∈ news, q.1 ≠ P) (hsz : acc.size < 100)
    (m1 : m (Str.ofString "listing") = some (.str x t)) (m2 : m (Str.ofString "part") = some (.int (i : Int) tp)) (m3 : m (Str.ofString "above") = some (.int A₁ ta)) (m4 : m (Str.ofString "figures") = some (.ref P))
    (hl : x.length = 10) (hi : i < 3) (hs : (sl3 x i).length = 3) (b1 : 0 ≤ A₁) (b2 : A₁ ≤ 100)
    (h : ∀ h' tk' t1 t2 c' m', m' (Str.ofString "listing") = some (.str x t) → m' (Str.ofString "above") = some (.int (A₁ * 2 + topAt x i) t1) → m' (Str.ofString "figures") = some (.ref P) → Fr h₀ L h' m' → News h₀ L h' ((I, o) :: (P, W.listOf (acc.push (.int (figAt x i) t2)) c') :: news) → Q .next { s with heap := h', toks := tk' }) :
    wpAny (model PySem.Challenge.pw_oc0295_01 w) A (execs (forBody capF.1) (figEnv L)) Q E s := by
  unfold sl3 at hs
  dsimp only [capF, forBody]
  refine wpAny_execs_cons ?_
  repeat ((fail_if_success (with_reducible show wpAny _ _ (execs _ _) _ _ _)); (first | (k_unfold; (try dsimp only)) | walk1 | (dsimp only; walk1) | (leave1; (try dsimp only))))
  dsimp only
  obtain ⟨y, hy⟩ : ∃ y, Txt.slice x (some (3 * (i : Int) + 1)) (some (3 * (i : Int) + 4)) = y := ⟨_, rfl⟩
  rename Fr _ _ _ _ => Fz
  rw [hy] at Fz hs
  rename_i tq _ _ _
  obtain ⟨m5, F5, f1, f3, f4, f5⟩ : ∃ m5, Fr h₀ L _ m5 ∧ m5 (Str.ofString "listing") = some (.str x t) ∧ m5 (Str.ofString "above") = some (.int A₁ ta) ∧ m5 (Str.ofString "figures") = some (.ref P) ∧ m5 (Str.ofString "three") = some (.str y _) := ⟨_, Fz, m1, m3, m4, rfl⟩
  clear Fz m1 m2 m3 m4
  refine wpAny_execs_cons ?_
  repeat ((fail_if_success (with_reducible show wpAny _ _ (execs _ _) _ _ _)); (first | (k_unfold; (try dsimp only)) | walk1 | (dsimp only; walk1) | (leave1; (try dsimp only))))
  repeat' (first | (k_unfold; (try dsimp only)) | walk1 | (dsimp only; walk1) | (leave1; (try dsimp only)))
  rename Fr _ _ _ _ => Fz
  rename News _ _ _ _ => Nz
  repeat (rename IfIs _ _ _ _ => hq; obtain ⟨hq⟩ := hq; subst hq)
  subst hy
  refine' h _ _ _ _ _ _ ?a ?b ?c Fz Nz
  case b => exact rfl
  case a => exact f1
  case c => exact f4
end
theorem ints_snoc {n : Int} {t : Tok} {ws : List Value} {xs : List Int} (h : IntsAre ws xs) : IntsAre (ws ++ [.int n t]) (xs ++ [n]) := by
  induction h with
  | nil => exact .cons n t .nil
  | cons a u _ ih => exact .cons a u ih
def topN (x : Str) : Nat → Int
  | 0 => 0
  | i + 1 => topN x i * 2 + topAt x i
theorem topN_in (x : Str) : ∀ i, i ≤ 3 → 0 ≤ topN x i ∧ topN x i ≤ 100
  | 0, _ => ⟨Int.le_refl 0, by show (0 : Int) ≤ 100; decide⟩
  | 1, _ => by
    have a := bif_in (!(Builtin.Str.occurrences (Str.ofString "SsTt") (Txt.item (sl3 x 0) 2) 0 (Str.ofString "SsTt").length 1).isEmpty)
    have a : 0 ≤ topAt x 0 ∧ topAt x 0 ≤ 1 := a
    show 0 ≤ 0 * 2 + topAt x 0 ∧ 0 * 2 + topAt x 0 ≤ 100
    omega
  | 2, _ => by
    have a : 0 ≤ topAt x 0 ∧ topAt x 0 ≤ 1 := bif_in _
    have b : 0 ≤ topAt x 1 ∧ topAt x 1 ≤ 1 := bif_in _
    show 0 ≤ (0 * 2 + topAt x 0) * 2 + topAt x 1 ∧ (0 * 2 + topAt x 0) * 2 + topAt x 1 ≤ 100
    omega
  | 3, _ => by
    have a : 0 ≤ topAt x 0 ∧ topAt x 0 ≤ 1 := bif_in _
    have b : 0 ≤ topAt x 1 ∧ topAt x 1 ≤ 1 := bif_in _
    have c : 0 ≤ topAt x 2 ∧ topAt x 2 ≤ 1 := bif_in _
    show 0 ≤ ((0 * 2 + topAt x 0) * 2 + topAt x 1) * 2 + topAt x 2 ∧ ((0 * 2 + topAt x 0) * 2 + topAt x 1) * 2 + topAt x 2 ≤ 100
    omega
  | n + 4, h => absurd h (by omega)
example {M : Model} {A : Around} {E : Value → Shared → Prop} {s : Shared} {env : Env} {Q : Flow → Shared → Prop} (h : Q .next s) : wpAny M A (execs [] env) Q E s := by
  walk1
  exact h
section
local macro_rules | `(tactic| walk_at "eval Name") => `(tactic| (k_here; (rename Fr _ _ _ _ => lF'); refine nameX_L lF' (by assumption) ?_))
theorem figuresX (w : World) (t : Tok) (news : Led) (x : Str) (hl : x.length = 10) (s0 : (sl3 x 0).length = 3) (s1 : (sl3 x 1).length = 3) (s2 : (sl3 x 2).length = 3) :
    Claim w 10 60 840 news [.str x t] (fun v l => ∃ S t0 t1 t2 t3 c, v = .ref S ∧ l = (S, W.listOf #[.int (((0 * 2 + topAt x 0) * 2 + topAt x 1) * 2 + topAt x 2) t0, .int (figAt x 0) t1, .int (figAt x 1) t2, .int (figAt x 2) t3] c) :: news ∧ ∀ q ∈ news, q.1 < S) := by
  have hs : ∀ i, i < 3 → (sl3 x i).length = 3 := fun i hi => match i, hi with
    | 0, _ => s0
    | 1, _ => s1
    | 2, _ => s2
  intro p loose mean mg mb dp un gd cn cs a ccd cl outer A₀ base h₀ L m s Q E B F X N T hk hdp hun hret
  refine wpAny_call ?_
  k_enter
  repeat ((fail_if_success (with_reducible show wpAny _ _ (exec (Stmt.For _ _ _ _ _) _) _ _ _)); (first | (k_unfold; (try dsimp only)) | walk1 | (dsimp only; walk1) | (leave1; (try dsimp only))))
  rename Fr _ _ _ _ => F1
  rename News _ _ _ _ => N1
  rename Frag.In _ _ => X1
  rename Top _ _ _ _ _ _ => T1
  rename (∀ q : Addr × Obj, q ∈ news → q.fst < _) => l1
  rename_i g1 L1 hz3 FG1 B1 tk0 hz2 P hz1 hz0
  have hPn : ∀ q ∈ news, q.1 ≠ P := fun q hq => Nat.ne_of_lt (l1 q hq)
  refine' rangeForN (env := figEnv L1) (h₀ := g1) (n := 3) (news := (P, W.listOf #[] 0) :: news) rfl rfl rfl (by decide) (fun Q' hq => ?hi)
    (fun i m' nw => ∃ vs c tb, m' (Str.ofString "listing") = some (.str x t) ∧ m' (Str.ofString "above") = some (.int (topN x i) tb) ∧ m' (Str.ofString "figures") = some (.ref P) ∧ nw = (P, W.listOf (List.toArray vs) c) :: news ∧ IntsAre vs ((List.range i).map (figAt x)))
    ?j0 ?step ?fin ?hE
  case hi =>
    refine Call_ ?_
    refine nameX_B F1 X1 (topRead_of T1) (v := .type "range") (by k_is) (by boot_fast) (by decide) ?_
    refine Pv.callWith_type1 ?_
    refine spliced_more ?_
    refine wpAny_Constant_int ?_
    refine spliced_none ?_
    refine call_range_1 ?_
    exact hq _ _ _ _ _ _ (IsRange.new ..) (F1.push _) (N1.grown fun _ _ e => Heap.get?_push_of_some _ e)
  case j0 => exact ⟨[], 0, _, rfl, rfl, rfl, rfl, .nil⟩
  case hE => passes_own
  case step =>
    rintro i tp I o m₁ nw h₁ tk₁ hi ⟨vs, c, tb, m1, m3, m4, rfl, hv⟩ off F₁ N₁
    have hb := topN_in x i (by omega)
    have hIP : I ≠ P := Ne.symm (off _ (.head _))
    have hlen : vs.length = i := by have := hv.length; simpa using this
    refine figTurn (i := i) (A₁ := topN x i) (tp := tp) (ta := tb) X1 F₁ N₁ hIP hPn (by rw [List.size_toArray]; omega) m1 rfl m3 m4 hl hi (hs i hi) hb.1 hb.2 ?_
    intro h' tk' t1 t2 c' m' e1 e3 e4 F' N'
    refine ⟨h', tk', m', _, rfl, F', N', ?_, vs ++ [.int (figAt x i) t2], c', t1, e1, e3, e4, ?_, ?_⟩
    · intro q hq
      rcases List.mem_cons.mp hq with rfl | hq
      · exact Ne.symm hIP
      · exact off q (.tail _ hq)
    · simp
    · rw [List.range_succ, List.map_append]
      exact ints_snoc hv
  case fin =>
    rintro h2 tk2 m' nw F2 N2 ⟨vs, c, tb, m1, m3, m4, rfl, hv⟩
    dsimp only
    have F3 : Fr g1 L1 h2 m' := F2
    have N3 : News g1 L1 h2 ((P, W.listOf vs.toArray c) :: news) := N2
    have hv' : IntsAre vs [figAt x 0, figAt x 1, figAt x 2] := hv
    clear hv
    obtain ⟨u1, v1, rfl, k1⟩ := hv'.cons_inv
    obtain ⟨u2, v2, rfl, k2⟩ := k1.cons_inv
    obtain ⟨u3, v3, rfl, k3⟩ := k2.cons_inv
    obtain rfl := k3.nil_inv
    clear hv' k1 k2 k3
    clear F2 N2 F1 N1
    repeat' (first | (k_unfold; (try dsimp only)) | walk1 | (dsimp only; walk1) | (leave1; (try dsimp only)))
    rename News _ _ _ _ => Nq
    have Nz := news_drop2 Nq
    rename (_ ∧ _ ∧ AllLt _ _) => lD
    refine hret _ _ _ _ ?_ (by assumption) Nz
    exact ⟨_, _, _, _, _, _, rfl, rfl, allLt_out lD.2.2⟩
end

end
section


/-! ## what _law_figures reads off filemode's signs: the figures -/
def t3 (hi lo d s : Nat) : List Nat := [if 4 ≤ d then 114 else 45, if 2 ≤ d % 4 then 119 else 45, if d % 2 = 1 then (if s = 1 then lo else 120) else (if s = 1 then hi else 45)]
def sgn (d0 d1 d2 d3 : Nat) : List Nat := 45 :: (t3 83 115 d1 (d0 / 4) ++ t3 83 115 d2 (d0 / 2 % 2) ++ t3 84 116 d3 (d0 % 2))
theorem pick_mask (M k : Nat) : ∀ ps : List (Nat × Nat), (∀ q ∈ ps, k &&& q.1 = q.1) → pickC M ps = pickC (M &&& k) ps
  | [], _ => rfl
  | (b, c) :: r, h => by
    have h1 : k &&& b = b := h (b, c) (.head _)
    have e : M &&& b = M &&& k &&& b := by rw [Nat.and_assoc, h1]
    show (if M &&& b = b then c else pickC M r) = (if M &&& k &&& b = b then c else pickC (M &&& k) r)
    rw [← e, pick_mask M k r fun q hq => h q (.tail _ hq)]
/-- what of the mode each three signs go by -/
theorem masks_all : ((List.range 4096).all fun r => Nat.beq ((32768 + r) &&& 2496) (64 * (r / 64 % 8) + 2048 * (r / 512 / 4)) && (Nat.beq ((32768 + r) &&& 1080) (8 * (r / 8 % 8) + 1024 * (r / 512 / 2 % 2)) && (Nat.beq ((32768 + r) &&& 519) (r % 8 + 512 * (r / 512 % 2)) && Nat.beq ((32768 + r) &&& 61440) 32768))) = true := by decide +kernel
theorem triads : ((List.range 8).all fun d => (List.range 2).all fun s => ([pickC (64 * d + 2048 * s) [(256, 114)], pickC (64 * d + 2048 * s) [(128, 119)], pickC (64 * d + 2048 * s) [(2112, 115), (2048, 83), (64, 120)]] == t3 83 115 d s) &&
    (([pickC (8 * d + 1024 * s) [(32, 114)], pickC (8 * d + 1024 * s) [(16, 119)], pickC (8 * d + 1024 * s) [(1032, 115), (1024, 83), (8, 120)]] == t3 83 115 d s) &&
    ([pickC (d + 512 * s) [(4, 114)], pickC (d + 512 * s) [(2, 119)], pickC (d + 512 * s) [(513, 116), (512, 84), (1, 120)]] == t3 84 116 d s))) = true := by decide +kernel
theorem triad {d s : Nat} (hd : d < 8) (hs : s < 2) : [pickC (64 * d + 2048 * s) [(256, 114)], pickC (64 * d + 2048 * s) [(128, 119)], pickC (64 * d + 2048 * s) [(2112, 115), (2048, 83), (64, 120)]] = t3 83 115 d s ∧
    [pickC (8 * d + 1024 * s) [(32, 114)], pickC (8 * d + 1024 * s) [(16, 119)], pickC (8 * d + 1024 * s) [(1032, 115), (1024, 83), (8, 120)]] = t3 83 115 d s ∧
    [pickC (d + 512 * s) [(4, 114)], pickC (d + 512 * s) [(2, 119)], pickC (d + 512 * s) [(513, 116), (512, 84), (1, 120)]] = t3 84 116 d s := by
  have h := List.all_eq_true.mp (List.all_eq_true.mp triads d (List.mem_range.mpr hd)) s (List.mem_range.mpr hs)
  obtain ⟨h1, h2⟩ := Bool.and_eq_true_iff.mp h
  obtain ⟨h2, h3⟩ := Bool.and_eq_true_iff.mp h2
  exact ⟨eq_of_beq h1, eq_of_beq h2, eq_of_beq h3⟩
theorem signs_eq {r : Nat} (h : r < 4096) : signs (32768 + r) = sgn (r / 512) (r / 64 % 8) (r / 8 % 8) (r % 8) ∧ (32768 + r) &&& 61440 = 32768 := by
  have hm := List.all_eq_true.mp masks_all r (List.mem_range.mpr h)
  obtain ⟨m1, hm⟩ := Bool.and_eq_true_iff.mp hm
  obtain ⟨m2, hm⟩ := Bool.and_eq_true_iff.mp hm
  obtain ⟨m3, m4⟩ := Bool.and_eq_true_iff.mp hm
  have m1 := Nat.eq_of_beq_eq_true m1
  have m2 := Nat.eq_of_beq_eq_true m2
  have m3 := Nat.eq_of_beq_eq_true m3
  have m4 := Nat.eq_of_beq_eq_true m4
  have t1 := (triad (d := r / 64 % 8) (s := r / 512 / 4) (by omega) (by omega)).1
  have t2 := (triad (d := r / 8 % 8) (s := r / 512 / 2 % 2) (by omega) (by omega)).2.1
  have t3' := (triad (d := r % 8) (s := r / 512 % 2) (by omega) (by omega)).2.2
  refine ⟨?_, m4⟩
  generalize 32768 + r = M at m1 m2 m3
  rw [← m1] at t1
  rw [← m2] at t2
  rw [← m3] at t3'
  unfold sgn
  rw [← t1, ← t2, ← t3']
  rw [← pick_mask M 2496 [(256, 114)] (by decide), ← pick_mask M 2496 [(128, 119)] (by decide), ← pick_mask M 2496 [(2112, 115), (2048, 83), (64, 120)] (by decide),
    ← pick_mask M 1080 [(32, 114)] (by decide), ← pick_mask M 1080 [(16, 119)] (by decide), ← pick_mask M 1080 [(1032, 115), (1024, 83), (8, 120)] (by decide),
    ← pick_mask M 519 [(4, 114)] (by decide), ← pick_mask M 519 [(2, 119)] (by decide), ← pick_mask M 519 [(513, 116), (512, 84), (1, 120)] (by decide)]
  rfl
def rd3 (a b c : Nat) : Int := (bif strL [a] == Str.ofString "r" then 4 else 0) + (bif strL [b] == Str.ofString "w" then 2 else 0) +
  (bif !(Builtin.Str.occurrences (Str.ofString "xst") (strL [c]) 0 (Str.ofString "xst").length 1).isEmpty then 1 else 0)
def rdT (c : Nat) : Int := bif !(Builtin.Str.occurrences (Str.ofString "SsTt") (strL [c]) 0 (Str.ofString "SsTt").length 1).isEmpty then 1 else 0
theorem rd_all : ((List.range 8).all fun d => (List.range 2).all fun s => (match t3 83 115 d s with | [a, b, c] => decide (rd3 a b c = d) && decide (rdT c = s) | _ => false) && (match t3 84 116 d s with | [a, b, c] => decide (rd3 a b c = d) && decide (rdT c = s) | _ => false)) = true := by decide +kernel
theorem rd_eq {d s : Nat} (hd : d < 8) (hs : s < 2) : ∃ a b c, t3 83 115 d s = [a, b, c] ∧ rd3 a b c = d ∧ rdT c = s := by
  have h := List.all_eq_true.mp (List.all_eq_true.mp rd_all d (List.mem_range.mpr hd)) s (List.mem_range.mpr hs)
  have h := (Bool.and_eq_true_iff.mp h).1
  exact ⟨_, _, _, rfl, by have := (Bool.and_eq_true_iff.mp h).1; exact of_decide_eq_true this, by have := (Bool.and_eq_true_iff.mp h).2; exact of_decide_eq_true this⟩
theorem rd_eqT {d s : Nat} (hd : d < 8) (hs : s < 2) : ∃ a b c, t3 84 116 d s = [a, b, c] ∧ rd3 a b c = d ∧ rdT c = s := by
  have h := List.all_eq_true.mp (List.all_eq_true.mp rd_all d (List.mem_range.mpr hd)) s (List.mem_range.mpr hs)
  have h := (Bool.and_eq_true_iff.mp h).2
  exact ⟨_, _, _, rfl, by have := (Bool.and_eq_true_iff.mp h).1; exact of_decide_eq_true this, by have := (Bool.and_eq_true_iff.mp h).2; exact of_decide_eq_true this⟩
theorem sl3_0 (a0 a1 a2 a3 a4 a5 a6 a7 a8 a9 : Nat) : sl3 (strL [a0, a1, a2, a3, a4, a5, a6, a7, a8, a9]) 0 = strL [a1, a2, a3] := rfl
theorem sl3_1 (a0 a1 a2 a3 a4 a5 a6 a7 a8 a9 : Nat) : sl3 (strL [a0, a1, a2, a3, a4, a5, a6, a7, a8, a9]) 1 = strL [a4, a5, a6] := rfl
theorem sl3_2 (a0 a1 a2 a3 a4 a5 a6 a7 a8 a9 : Nat) : sl3 (strL [a0, a1, a2, a3, a4, a5, a6, a7, a8, a9]) 2 = strL [a7, a8, a9] := rfl
theorem item3_0 (a b c : Nat) : Txt.item (strL [a, b, c]) 0 = strL [a] := rfl
theorem item3_1 (a b c : Nat) : Txt.item (strL [a, b, c]) 1 = strL [b] := rfl
theorem item3_2 (a b c : Nat) : Txt.item (strL [a, b, c]) 2 = strL [c] := rfl
theorem read_back {d0 d1 d2 d3 : Nat} (h0 : d0 < 8) (h1 : d1 < 8) (h2 : d2 < 8) (h3 : d3 < 8) {x : Str} (hx : x = strL (sgn d0 d1 d2 d3)) :
    x.length = 10 ∧ (sl3 x 0).length = 3 ∧ (sl3 x 1).length = 3 ∧ (sl3 x 2).length = 3 ∧ figAt x 0 = d1 ∧ figAt x 1 = d2 ∧ figAt x 2 = d3 ∧ ((0 * 2 + topAt x 0) * 2 + topAt x 1) * 2 + topAt x 2 = d0 := by
  obtain ⟨a1, a2, a3, e1, f1, g1⟩ := rd_eq (s := d0 / 4) h1 (by omega)
  obtain ⟨a4, a5, a6, e2, f2, g2⟩ := rd_eq (s := d0 / 2 % 2) h2 (by omega)
  obtain ⟨a7, a8, a9, e3, f3, g3⟩ := rd_eqT (s := d0 % 2) h3 (by omega)
  have e : sgn d0 d1 d2 d3 = [45, a1, a2, a3, a4, a5, a6, a7, a8, a9] := by unfold sgn; rw [e1, e2, e3]; rfl
  rw [e] at hx
  subst hx
  refine ⟨rfl, rfl, rfl, rfl, ?_, ?_, ?_, ?_⟩
  · unfold figAt; rw [sl3_0, item3_0, item3_1, item3_2]; exact f1
  · unfold figAt; rw [sl3_1, item3_0, item3_1, item3_2]; exact f2
  · unfold figAt; rw [sl3_2, item3_0, item3_1, item3_2]; exact f3
  · unfold topAt; rw [sl3_0, sl3_1, sl3_2, item3_2, item3_2, item3_2]
    show ((0 * 2 + rdT a3) * 2 + rdT a6) * 2 + rdT a9 = (d0 : Int)
    rw [g1, g2, g3]
    omega

end
section

/-! ## _law_compared, _law_by_figures, _law_due -/
def cmpI (a b : Int) : Int := if a < b then -1 else if a > b then 1 else 0
section
theorem comparedK (w : World) (a b : Int) (ta tb : Tok) (news : Led) : Claim w 4 40 847 news [.int a ta, .int b tb] (fun v l => (∃ t, v = .int (cmpI a b) t) ∧ l = news) := by
  intro p loose mean mg mb dp un gd cn cs a' ccd cl outer A₀ base h₀ L m s Q E B F X N T hk hdp hun hret
  refine wpAny_call ?_
  k_enter
  repeat' (first | (k_unfold; (try dsimp only)) | walk1 | (dsimp only; walk1) | (leave1; (try dsimp only)))
  · exact hret _ _ _ _ ⟨⟨_, congrArg (Value.int · _) (if_pos (by assumption)).symm⟩, rfl⟩ (by assumption) (by assumption)
  · exact hret _ _ _ _ ⟨⟨_, congrArg (Value.int · _) ((if_neg (by assumption)).trans (if_pos (by assumption))).symm⟩, rfl⟩ (by assumption) (by assumption)
  · exact hret _ _ _ _ ⟨⟨_, congrArg (Value.int · _) ((if_neg (by assumption)).trans (if_neg (by assumption))).symm⟩, rfl⟩ (by assumption) (by assumption)
end
@[reducible] def four (a : Nat → Int) (t : Nat → Tok) (c : Nat) : Obj := W.listOf #[.int (a 0) (t 0), .int (a 1) (t 1), .int (a 2) (t 2), .int (a 3) (t 3)] c
theorem itemF {prog : Program} {w : World} {A : Around} {E : Value → Shared → Prop} {s : Shared} {h₀ : Heap} {L A1 : Addr} {news : Led} {value slice : Expr} {a : Nat → Int} {t : Nat → Tok} {c i : Nat} {k : Int} {u : Tok} {Q : Value → Shared → Prop} (N : News h₀ L s.heap news) (hm : (A1, four a t c) ∈ news) (hi : i < 4) (hk : k = (i : Int)) (h : Q (.int (a i) (t i)) s)
    (hs : subscripted slice false (.ref A1) (.int k u) = operate [.ref A1, .int k u] (getItem (.ref A1) (.int k u)) := by with_unfolding_all rfl) :
    wpAny (model prog w) A (subscriptTail value slice (.ref A1) (.int k u)) Q E s := by
  have hl : s.heap.IsList A1 #[.int (a 0) (t 0), .int (a 1) (t 1), .int (a 2) (t 2), .int (a 3) (t 3)] := ⟨_, (N _ hm).1, rfl, c, rfl⟩
  subst hk
  refine tail_any hl.typeIs slot_list_getitem.lookup (wpAny_getItem_list hl (by omega) (by omega) ?_ h) hs
  rw [Int.toNat_natCast]
  match i, hi with
  | 0, _ => rfl
  | 1, _ => rfl
  | 2, _ => rfl
  | 3, _ => rfl
inductive IntVs : List Nat → List Value → Prop
  | nil : IntVs [] []
  | cons {k : Nat} {t : Tok} {r : List Nat} {vs : List Value} (h : IntVs r vs) : IntVs (k :: r) (.int (k : Int) t :: vs)
theorem IntVs.snoc {k : Nat} {t : Tok} : ∀ {ks : List Nat} {vs : List Value}, IntVs ks vs → IntVs (ks ++ [k]) (vs ++ [.int (k : Int) t])
  | _, _, .nil => .cons .nil
  | _, _, .cons h => .cons h.snoc
example {M : Model} {A : Around} {E : Value → Shared → Prop} {s : Shared} {env : Env} {Q : Flow → Shared → Prop} (h : Q .next s) : wpAny M A (execs [] env) Q E s := by
  walk1
  exact h
section
local macro_rules | `(tactic| k_mem) => `(tactic| assumption)
local macro_rules | `(tactic| walk_at "subscriptTail Name Name ref int") => `(tactic| (k_here; k_dflt (refine' itemF ?N ?m ?i ?k ?_; (case N => k_asm); (case m => k_mem); (case i => assumption); (case k => omega))))
/-- the test of the comprehension upon the k-th figures -/
theorem unlikeTest {w : World} {A : Around} {E : Value → Shared → Prop} {s : Shared} {h₀ : Heap} {L A1 B1 c1 c2 I C D : Nat} {m m₂ : Str → Option Value} {o1 o2 oI oC oD : Obj} {a b : Nat → Int} {ta tb : Nat → Tok} {ca cb i : Nat} {t : Tok} {news : Led} {Q : Bool → Shared → Prop} {p1 p2 p3 p4 p5 p6 p7 : Pos}
    (X : (K w.params).In h₀) (hi : i < 4) (hc : LCg.NsObj oC m₂) (hk : m₂ (Str.ofString "k") = some (.int (0 + (i : Int)) t)) (F : Fr h₀ L s.heap m) (N : News h₀ L s.heap ((I, oI) :: (C, oC) :: (D, oD) :: (c2, o2) :: (c1, o1) :: news))
    (d1 : o1.data = .cell (some (.ref A1))) (d2 : o2.data = .cell (some (.ref B1))) (hA : (A1, four a ta ca) ∈ news) (hB : (B1, four b tb cb) ∈ news)
    (h : Q (a i != b i) s) :
    wpAny (model PySem.Challenge.pw_oc0295_01 w) A (isTrue (.Compare (.Subscript (.Name (Str.ofString "one") p1) (.Name (Str.ofString "k") p2) p3) [.NotEq] [.Subscript (.Name (Str.ofString "two") p4) (.Name (Str.ofString "k") p5) p6] p7)
      (compEnvC ⟨.function, [(Str.ofString ".0", .local), (Str.ofString "k", .local), (Str.ofString "one", .free), (Str.ofString "two", .free)], false, false, []⟩ [(Str.ofString "one", c1), (Str.ofString "two", c2)] C (envOfC (Str.ofString "_law_by_figures") cap852.1.scope L 852 (.ref 851)))
      (eval (.Compare (.Subscript (.Name (Str.ofString "one") p1) (.Name (Str.ofString "k") p2) p3) [.NotEq] [.Subscript (.Name (Str.ofString "two") p4) (.Name (Str.ofString "k") p5) p6] p7)
        (compEnvC ⟨.function, [(Str.ofString ".0", .local), (Str.ofString "k", .local), (Str.ofString "one", .free), (Str.ofString "two", .free)], false, false, []⟩ [(Str.ofString "one", c1), (Str.ofString "two", c2)] C (envOfC (Str.ofString "_law_by_figures") cap852.1.scope L 852 (.ref 851))))) Q E s := by
  repeat' (first | (k_unfold; (try dsimp only)) | walk1 | (dsimp only; walk1) | (leave1; (try dsimp only)))
  exact h
end
noncomputable abbrev bfEnv (L : Addr) : Env := envOfC (Str.ofString "_law_by_figures") cap852.1.scope L 852 (.ref 851)
abbrev kScope : Scope := ⟨.function, [(Str.ofString ".0", .local), (Str.ofString "k", .local), (Str.ofString "one", .free), (Str.ofString "two", .free)], false, false, []⟩
def unl (a b : Nat → Int) (n : Nat) : List Nat := (List.range n).filter fun k => a k != b k
theorem unl_succ (a b : Nat → Int) (n : Nat) : unl a b (n + 1) = bif a n != b n then unl a b n ++ [n] else unl a b n := by
  unfold unl
  rw [List.range_succ, List.filter_append]
  cases h : (a n != b n) <;> simp [h]
theorem unlikeRest {w : World} {A : Around} {s : Shared} {h₀ : Heap} {L A1 B1 c1 c2 : Nat} {m : Str → Option Value} {o1 o2 : Obj} {a b : Nat → Int} {ta tb : Nat → Tok} {ca cb : Nat} {news : Led} {p1 p2 p3 p4 p5 p6 p7 p8 : Pos} {Fin : List Value → Led → Prop}
    (X : (K w.params).In h₀) (d1 : o1.data = .cell (some (.ref A1))) (d2 : o2.data = .cell (some (.ref B1))) (hA : (A1, four a ta ca) ∈ news) (hB : (B1, four b tb cb) ∈ news)
    (hFin : ∀ ys, IntVs (unl a b 4) ys → Fin ys ((c2, o2) :: (c1, o1) :: news)) : ∀ (k i : Nat) (ys : List Value), i + k = 4 → IntVs (unl a b i) ys →
    LCt.CompRestT PySem.Challenge.pw_oc0295_01 w A h₀ L m (bfEnv L) (.Compare (.Subscript (.Name (Str.ofString "one") p1) (.Name (Str.ofString "k") p2) p3) [.NotEq] [.Subscript (.Name (Str.ofString "two") p4) (.Name (Str.ofString "k") p5) p6] p7) (.Name (Str.ofString "k") p8) (Str.ofString "k") kScope
      [(Str.ofString "one", c1), (Str.ofString "two", c2)] s (fun _ => True) (fun i v => ∃ t, v = .int (0 + (i : Int)) t) Fin k i ys ((c2, o2) :: (c1, o1) :: news)
  | 0, i, ys, hi, hv => by
    have : i = 4 := by omega
    subst this
    exact LCt.CompRestT.zero (hFin ys hv)
  | k + 1, i, ys, hi, hv => by
    refine LCt.CompRestT.succ ?_
    rintro v I oI C oC D m₂ h tk E' ⟨t, rfl⟩ hc hx F N off hne
    refine unlikeTest X (by omega) hc hx F N d1 d2 hA hB ?_
    cases e : (a i != b i) with
    | true =>
      rw [if_pos rfl]
      refine wpAny_Name (wpAny_loadName_local rfl rfl (hc.ns (N _ (.tail _ (.head _))).1) hx ?_) (by decide)
      refine ⟨h, tk, _, rfl, F, N, off, trivial, unlikeRest X d1 d2 hA hB hFin k (i + 1) _ (by omega) ?_⟩
      rw [unl_succ, e, Int.zero_add]
      exact hv.snoc
    | false =>
      rw [if_neg (by decide)]
      refine ⟨h, tk, _, rfl, F, N, off, trivial, unlikeRest X d1 d2 hA hB hFin k (i + 1) _ (by omega) ?_⟩
      rw [unl_succ, e]
      exact hv

end
section

/-! ## _law_by_figures -/
def byLow (a b : Nat → Int) (k0 : Nat) : Int :=
  if k0 ≠ 1 then -1 else if b 1 - a 1 ≠ 1 then -1 else if a 2 - b 2 = 7 then 1 else if a 2 - b 2 = 6 then cmpI (a 3) (b 3) else -1
def byL (a b : Nat → Int) : Int := match unl a b 4 with
  | [] => 0
  | k0 :: _ => byLow a b k0
theorem unl_lt {a b : Nat → Int} {k0 : Nat} {r : List Nat} (h : unl a b 4 = k0 :: r) : k0 < 4 := by
  have : k0 ∈ unl a b 4 := by rw [h]; exact .head _
  exact List.mem_range.mp (List.mem_filter.mp this).1
theorem iteF {c : Bool} {P Q : Prop} (h : c = false) (q : Q) : if c = true then P else Q := by rw [if_neg (by rw [h]; decide)]; exact q
theorem iteT {c : Bool} {P Q : Prop} (h : c = true) (q : P) : if c = true then P else Q := by rw [if_pos h]; exact q
theorem units_ok {dp un : Nat} {gd : Option (List Code)} {cn : Str} {cs : Scope} {L a : Addr} {ccd : Value} {cl : List (Str × Addr)} {outer : List Env} {env : Env} (h : un + 70 < cLine) : ((ktrTop dp un gd cn cs L a ccd cl outer).deeper env).units < cLine := by
  show un + 3 < cLine
  omega
section
variable {prog : Program} {w : World} {A : Around} {E : Value → Shared → Prop} {s : Shared} {h₀ : Heap} {L : Addr} {news : Led}
theorem itemHead {D : Addr} {value slice : Expr} {v : Value} {vs : List Value} {u : Tok} {Q : Value → Shared → Prop} (N : News h₀ L s.heap news) (hm : (D, LCg.lst (v :: vs)) ∈ news) (h : Q v s)
    (hs : subscripted slice false (.ref D) (.int 0 u) = operate [.ref D, .int 0 u] (getItem (.ref D) (.int 0 u)) := by with_unfolding_all rfl) :
    wpAny (model prog w) A (subscriptTail value slice (.ref D) (.int 0 u)) Q E s := by
  have hl : s.heap.IsList D (v :: vs).toArray := ⟨_, (N _ hm).1, rfl, _, rfl⟩
  exact tail_any hl.typeIs slot_list_getitem.lookup (wpAny_getItem_list hl (by omega) (by omega) rfl h) hs
theorem eqNilF {D D2 : Addr} {v : Value} {vs : List Value} {c : Nat} {Q : Value → Shared → Prop} (N : News h₀ L s.heap news) (hm : (D, LCg.lst (v :: vs)) ∈ news) (hm2 : (D2, W.listOf #[] c) ∈ news) (hu : A.units < cLine) (h : Q (.bool false) s) :
    wpAny (model prog w) A (compareOp .Eq (.ref D) (.ref D2)) Q E s :=
  SeqAt.eq_list_lengthsAt (items := (v :: vs).toArray) (items2 := #[]) ⟨_, (N _ hm).1, rfl, _, rfl⟩ ⟨_, (N _ hm2).1, rfl, _, rfl⟩ (by simp) hu h
theorem eqNilT {D D2 : Addr} {c : Nat} {Q : Value → Shared → Prop} (N : News h₀ L s.heap news) (hm : (D, LCg.lst []) ∈ news) (hm2 : (D2, W.listOf #[] c) ∈ news) (hu : A.units < cLine) (h : Q (.bool true) s) :
    wpAny (model prog w) A (compareOp .Eq (.ref D) (.ref D2)) Q E s :=
  SeqAt.eq_listAt (items := #[]) (items2 := #[]) (e := fun _ => true) ⟨_, (N _ hm).1, rfl, _, rfl⟩ ⟨_, (N _ hm2).1, rfl, _, rfl⟩ rfl hu (fun j h1 => absurd h1 (Nat.not_lt_zero _)) h
end
example {M : Model} {A : Around} {E : Value → Shared → Prop} {s : Shared} {env : Env} {Q : Flow → Shared → Prop} (h : Q .next s) : wpAny M A (execs [] env) Q E s := by
  walk1
  exact h
section
local macro_rules | `(tactic| k_mem) => `(tactic| assumption)
local macro_rules | `(tactic| walk_at "ite") => `(tactic| first | refine iteF (by assumption) ?_ | refine iteT (by assumption) ?_)
local macro_rules | `(tactic| k_enter) => `(tactic| (refine' code_defC ?k1 ?k2 ?k3 ?k4 ?k5 ?kA ?kF ?kK ?k6 ?k7 ?k8 ?k9 ?kB ?kD ?_ ?c2 ?c3 ?c4; (case kA => exact rfl); (case kF => exact rfl); (case kK => first | exact rfl | assumption); (case k1 => k_asm); (case k2 => k_asm); (case k3 => k_asm); (case k4 => k_asm); (case k5 => k_asm); (case k6 => k_is); (case k7 => k_is); (case k8 => k_room); (case k9 => exact BindsTo.of_eq rfl); (case kB => exact rfl); (case kD => decide +kernel); (case c2 => exact rfl); (case c3 => exact rfl); (case c4 => exact rfl); k_whole; intro g' L' h' tk' cells' FG' F' N' Y' B' X' T' l1; (try k_lt l1); k_cells Y'; (try simp only [List.cons_append, List.nil_append] at N'); (try dsimp only); (try k_lift B'); (try k_fold)))
local macro_rules | `(tactic| walk_at "subscriptTail Name Subscript ref int") => `(tactic| (k_here; k_dflt (refine' itemF ?N ?m ?i ?k ?_; (case N => k_asm); (case m => k_mem); (case i => assumption); (case k => exact rfl))))
local macro_rules | `(tactic| walk_at "subscriptTail Name Constant ref int") => `(tactic| (k_here; (with_reducible show wpAny _ _ (subscriptTail _ _ (Value.ref _) (Value.int 0 _)) _ _ _); k_dflt (refine' itemHead ?N ?m ?_; (case N => k_asm); (case m => k_mem))))
local macro_rules | `(tactic| walk_at "subscriptTail Name Constant ref int") => `(tactic| (k_here; (with_reducible show wpAny _ _ (subscriptTail _ _ (Value.ref _) (Value.int 1 _)) _ _ _); k_dflt (refine' itemF (i := 1) ?N ?m ?i ?k ?_; (case N => k_asm); (case m => k_mem); (case i => decide); (case k => exact rfl))))
local macro_rules | `(tactic| walk_at "subscriptTail Name Constant ref int") => `(tactic| (k_here; (with_reducible show wpAny _ _ (subscriptTail _ _ (Value.ref _) (Value.int 2 _)) _ _ _); k_dflt (refine' itemF (i := 2) ?N ?m ?i ?k ?_; (case N => k_asm); (case m => k_mem); (case i => decide); (case k => exact rfl))))
local macro_rules | `(tactic| walk_at "subscriptTail Name Constant ref int") => `(tactic| (k_here; (with_reducible show wpAny _ _ (subscriptTail _ _ (Value.ref _) (Value.int 3 _)) _ _ _); k_dflt (refine' itemF (i := 3) ?N ?m ?i ?k ?_; (case N => k_asm); (case m => k_mem); (case i => decide); (case k => exact rfl))))
local macro_rules | `(tactic| walk_at "compareOp Eq ref ref") => `(tactic| (k_here; k_dflt (first | (refine' eqNilF ?N ?m ?m2 ?u ?_; (case N => k_asm); (case m => k_mem); (case m2 => k_mem); (case u => exact units_ok (by assumption))) | (refine' eqNilT ?N ?m ?m2 ?u ?_; (case N => k_asm); (case m => k_mem); (case m2 => k_mem); (case u => exact units_ok (by assumption))))))
theorem byFigLow (w : World) (A1 B1 : Addr) (a b : Nat → Int) (ta tb : Nat → Tok) (ca cb : Nat) (news : Led) (hA : (A1, four a ta ca) ∈ news) (hB : (B1, four b tb cb) ∈ news) (hlow : ∀ k0 r, unl a b 4 = k0 :: r → a k0 ≤ b k0) :
    Claim w 8 70 852 news [.ref A1, .ref B1] (fun v l => (∃ t, v = .int (byL a b) t) ∧ l = news) := by
  intro p loose mean mg mb dp un gd cn cs a' ccd cl outer A₀ base h₀ L m s Q E B F X N T hk hdp hun hret
  refine wpAny_call ?_
  k_enter
  iterate 1 (first | (k_here; (with_reducible show wpAny _ _ (call (Value.ref 847) _) _ _ _); k_dflt (refine' (comparedK _ _ _ _ _ _).use ?k1 ?k2 ?k3 ?k4 ?k5 ?k6 ?k7 ?k8 ?_; (case k1 => k_asm); (case k2 => k_asm); (case k3 => k_asm); (case k4 => k_asm); (case k5 => k_asm); (case k6 => first | exact rfl | assumption); (case k7 => k_room); (case k8 => (try dsimp only); omega)); intro v' l' h' tk' hR' F' N'; obtain ⟨⟨t', e1'⟩, e2'⟩ := hR'; subst e1'; rw [e2'] at N'; clear e2'; (try k_sweep)) | (k_unfold; (try dsimp only)) | walk1 | (dsimp only; walk1) | (leave1; (try dsimp only)))
  refine' LCt.Assign_ListComp_T ?F0 ?a1 ?a2 ?a3 ?a4 ?a5 ?a6 ?a7 ?a8 ?a9 ?_ ?hs
  case F0 => k_asm
  case a1 => rfl
  case a2 => with_unfolding_all rfl
  case a3 => with_unfolding_all rfl
  case a4 => decide
  case a5 => rfl
  case a6 => decide
  case a7 => rfl
  case a8 => rfl
  case a9 => rfl
  case hs => intro _; rfl
  iterate 7 (first | (k_here; (with_reducible show wpAny _ _ (call (Value.ref 847) _) _ _ _); k_dflt (refine' (comparedK _ _ _ _ _ _).use ?k1 ?k2 ?k3 ?k4 ?k5 ?k6 ?k7 ?k8 ?_; (case k1 => k_asm); (case k2 => k_asm); (case k3 => k_asm); (case k4 => k_asm); (case k5 => k_asm); (case k6 => first | exact rfl | assumption); (case k7 => k_room); (case k8 => (try dsimp only); omega)); intro v' l' h' tk' hR' F' N'; obtain ⟨⟨t', e1'⟩, e2'⟩ := hR'; subst e1'; rw [e2'] at N'; clear e2'; (try k_sweep)) | (k_unfold; (try dsimp only)) | walk1 | (dsimp only; walk1) | (leave1; (try dsimp only)))
  rename Frag.In _ _ => X1
  rename IsRange _ _ _ _ _ _ _ _ => R1
  rename Fr _ _ _ _ => F1
  rename News _ _ _ _ => N1
  refine LCt.CompSrcT.range rfl F1 N1 R1 (by decide) (n := 4) (by decide) (by decide) fun g => ?_
  refine' unlikeRest (A1 := A1) (B1 := B1) X1 ?d1 ?d2 hA hB ?_ 4 0 [] rfl .nil
  case d1 => assumption
  case d2 => assumption
  intro ys hys D h tk F2 N2 off2
  clear F1 N1 R1
  cases hu : unl a b 4 with
  | nil =>
    rw [hu] at hys
    cases hys
    repeat' (first | (k_here; (with_reducible show wpAny _ _ (call (Value.ref 847) _) _ _ _); k_dflt (refine' (comparedK _ _ _ _ _ _).use ?k1 ?k2 ?k3 ?k4 ?k5 ?k6 ?k7 ?k8 ?_; (case k1 => k_asm); (case k2 => k_asm); (case k3 => k_asm); (case k4 => k_asm); (case k5 => k_asm); (case k6 => first | exact rfl | assumption); (case k7 => k_room); (case k8 => (try dsimp only); omega)); intro v' l' h' tk' hR' F' N'; obtain ⟨⟨t', e1'⟩, e2'⟩ := hR'; subst e1'; rw [e2'] at N'; clear e2'; (try k_sweep)) | (k_unfold; (try dsimp only)) | walk1 | (dsimp only; walk1) | (leave1; (try dsimp only)))
    have e : byL a b = 0 := by unfold byL; rw [hu]
    exact hret _ _ _ _ ⟨⟨_, congrArg (Value.int · _) e.symm⟩, rfl⟩ (by assumption) (news_sub (by assumption) fun q hq => .tail _ (.tail _ (.tail _ (.tail _ hq))))
  | cons k0 r =>
    have hk4 := unl_lt hu
    have hle := hlow k0 r hu
    have hgt : decide (a k0 > b k0) = false := decide_eq_false (by omega)
    have e : byL a b = byLow a b k0 := by unfold byL; rw [hu]
    rw [hu] at hys
    cases hys with
    | cons hys =>
      rw [e] at hret
      clear e hu hlow
      repeat' (first | (k_here; (with_reducible show wpAny _ _ (call (Value.ref 847) _) _ _ _); k_dflt (refine' (comparedK _ _ _ _ _ _).use ?k1 ?k2 ?k3 ?k4 ?k5 ?k6 ?k7 ?k8 ?_; (case k1 => k_asm); (case k2 => k_asm); (case k3 => k_asm); (case k4 => k_asm); (case k5 => k_asm); (case k6 => first | exact rfl | assumption); (case k7 => k_room); (case k8 => (try dsimp only); omega)); intro v' l' h' tk' hR' F' N'; obtain ⟨⟨t', e1'⟩, e2'⟩ := hR'; subst e1'; rw [e2'] at N'; clear e2'; (try k_sweep)) | (k_unfold; (try dsimp only)) | walk1 | (dsimp only; walk1) | (leave1; (try dsimp only)))
      all_goals refine hret _ _ _ _ ⟨⟨_, congrArg (Value.int · _) ?_⟩, rfl⟩ (by assumption) (news_sub (by assumption) fun q hq => .tail _ (.tail _ (.tail _ (.tail _ hq))))
      all_goals (unfold byLow; (repeat' split) <;> first | rfl | (exfalso; omega))
theorem byFigHigh (w : World) (A1 B1 : Addr) (a b : Nat → Int) (ta tb : Nat → Tok) (ca cb : Nat) (news : Led) (hA : (A1, four a ta ca) ∈ news) (hB : (B1, four b tb cb) ∈ news) (k0 : Nat) (r : List Nat) (hu : unl a b 4 = k0 :: r) (hhi : a k0 > b k0) (hlow : ∀ k0 r, unl b a 4 = k0 :: r → b k0 ≤ a k0) :
    Claim w 12 130 852 news [.ref A1, .ref B1] (fun v l => (∃ t, v = .int (-(byL b a)) t) ∧ l = news) := by
  intro p loose mean mg mb dp un gd cn cs a' ccd cl outer A₀ base h₀ L m s Q E B F X N T hk hdp hun hret
  have hun' : un + 70 < cLine := by omega
  refine wpAny_call ?_
  k_enter
  iterate 1 (first | (k_here; (with_reducible show wpAny _ _ (call (Value.ref 847) _) _ _ _); k_dflt (refine' (comparedK _ _ _ _ _ _).use ?k1 ?k2 ?k3 ?k4 ?k5 ?k6 ?k7 ?k8 ?_; (case k1 => k_asm); (case k2 => k_asm); (case k3 => k_asm); (case k4 => k_asm); (case k5 => k_asm); (case k6 => first | exact rfl | assumption); (case k7 => k_room); (case k8 => (try dsimp only); omega)); intro v' l' h' tk' hR' F' N'; obtain ⟨⟨t', e1'⟩, e2'⟩ := hR'; subst e1'; rw [e2'] at N'; clear e2'; (try k_sweep)) | (k_unfold; (try dsimp only)) | walk1 | (dsimp only; walk1) | (leave1; (try dsimp only)))
  refine' LCt.Assign_ListComp_T ?F0 ?a1 ?a2 ?a3 ?a4 ?a5 ?a6 ?a7 ?a8 ?a9 ?_ ?hs
  case F0 => k_asm
  case a1 => rfl
  case a2 => with_unfolding_all rfl
  case a3 => with_unfolding_all rfl
  case a4 => decide
  case a5 => rfl
  case a6 => decide
  case a7 => rfl
  case a8 => rfl
  case a9 => rfl
  case hs => intro _; rfl
  iterate 7 (first | (k_here; (with_reducible show wpAny _ _ (call (Value.ref 847) _) _ _ _); k_dflt (refine' (comparedK _ _ _ _ _ _).use ?k1 ?k2 ?k3 ?k4 ?k5 ?k6 ?k7 ?k8 ?_; (case k1 => k_asm); (case k2 => k_asm); (case k3 => k_asm); (case k4 => k_asm); (case k5 => k_asm); (case k6 => first | exact rfl | assumption); (case k7 => k_room); (case k8 => (try dsimp only); omega)); intro v' l' h' tk' hR' F' N'; obtain ⟨⟨t', e1'⟩, e2'⟩ := hR'; subst e1'; rw [e2'] at N'; clear e2'; (try k_sweep)) | (k_unfold; (try dsimp only)) | walk1 | (dsimp only; walk1) | (leave1; (try dsimp only)))
  rename Frag.In _ _ => X1
  rename IsRange _ _ _ _ _ _ _ _ => R1
  rename Fr _ _ _ _ => F1
  rename News _ _ _ _ => N1
  refine LCt.CompSrcT.range rfl F1 N1 R1 (by decide) (n := 4) (by decide) (by decide) fun g => ?_
  refine' unlikeRest (A1 := A1) (B1 := B1) X1 ?d1 ?d2 hA hB ?_ 4 0 [] rfl .nil
  case d1 => assumption
  case d2 => assumption
  intro ys hys D h tk F2 N2 off2
  clear F1 N1 R1
  have hk4 := unl_lt hu
  have hgt : decide (a k0 > b k0) = true := decide_eq_true hhi
  rw [hu] at hys
  cases hys with
  | cons hys =>
    clear hu
    iterate 44 (first | (k_here; (with_reducible show wpAny _ _ (call (Value.ref 847) _) _ _ _); k_dflt (refine' (comparedK _ _ _ _ _ _).use ?k1 ?k2 ?k3 ?k4 ?k5 ?k6 ?k7 ?k8 ?_; (case k1 => k_asm); (case k2 => k_asm); (case k3 => k_asm); (case k4 => k_asm); (case k5 => k_asm); (case k6 => first | exact rfl | assumption); (case k7 => k_room); (case k8 => (try dsimp only); omega)); intro v' l' h' tk' hR' F' N'; obtain ⟨⟨t', e1'⟩, e2'⟩ := hR'; subst e1'; rw [e2'] at N'; clear e2'; (try k_sweep)) | (k_unfold; (try dsimp only)) | walk1 | (dsimp only; walk1) | (leave1; (try dsimp only)))
    refine ⟨Frag.In.keeps (by assumption) (Fr.keep (by assumption)), ?_⟩
    refine' (byFigLow _ _ _ _ _ _ _ _ _ _ ?hA ?hB ?hL).use ?k1 ?k2 ?k3 ?k4 ?k5 ?k6 ?k7 ?k8 ?_
    case hL => assumption
    case k4 => k_asm
    case hA => k_mem
    case hB => k_mem
    case k1 => k_asm
    case k2 => k_asm
    case k3 => k_asm
    case k5 => k_asm
    case k6 => first | exact rfl | assumption
    case k7 => k_room
    case k8 => (try dsimp only); omega
    intro v' l' h' tk' hR' F' N'
    obtain ⟨⟨t', rfl⟩, rfl⟩ := hR'
    repeat' (first | (k_here; (with_reducible show wpAny _ _ (call (Value.ref 847) _) _ _ _); k_dflt (refine' (comparedK _ _ _ _ _ _).use ?k1 ?k2 ?k3 ?k4 ?k5 ?k6 ?k7 ?k8 ?_; (case k1 => k_asm); (case k2 => k_asm); (case k3 => k_asm); (case k4 => k_asm); (case k5 => k_asm); (case k6 => first | exact rfl | assumption); (case k7 => k_room); (case k8 => (try dsimp only); omega)); intro v' l' h' tk' hR' F' N'; obtain ⟨⟨t', e1'⟩, e2'⟩ := hR'; subst e1'; rw [e2'] at N'; clear e2'; (try k_sweep)) | (k_unfold; (try dsimp only)) | walk1 | (dsimp only; walk1) | (leave1; (try dsimp only)))
    exact hret _ _ _ _ ⟨⟨_, rfl⟩, rfl⟩ (by assumption) (news_sub (by assumption) fun q hq => .tail _ (.tail _ (.tail _ (.tail _ hq))))
end

end
section

/-! ## _law_by_figures whole; _law_due -/
def byF (a b : Nat → Int) : Int := match unl a b 4 with
  | [] => 0
  | k0 :: _ => if a k0 > b k0 then -(byL b a) else byL a b
theorem unl_symm (a b : Nat → Int) (n : Nat) : unl a b n = unl b a n := by
  unfold unl
  congr 1
  funext k
  exact bne_comm
theorem Claim.mono {w : World} {D U D' U' : Nat} {f : Addr} {news : Led} {vs : List Value} {R R' : Value → Led → Prop} (C : Claim w D U f news vs R) (hD : D ≤ D') (hU : U ≤ U') (h : ∀ v l, R v l → R' v l) : Claim w D' U' f news vs R' := by
  intro p loose mean mg mb dp un gd cn cs a ccd cl outer A₀ base h₀ L m s Q E B F X N T hk hdp hun hret
  exact C.use B F X N T hk (by omega) (by omega) fun v l h' tk' hR F' N' => hret v l h' tk' (h v l hR) F' N'
theorem byFigK (w : World) (A1 B1 : Addr) (a b : Nat → Int) (ta tb : Nat → Tok) (ca cb : Nat) (news : Led) (hA : (A1, four a ta ca) ∈ news) (hB : (B1, four b tb cb) ∈ news) :
    Claim w 12 130 852 news [.ref A1, .ref B1] (fun v l => (∃ t, v = .int (byF a b) t) ∧ l = news) := by
  cases hu : unl a b 4 with
  | nil =>
    refine (byFigLow w A1 B1 a b ta tb ca cb news hA hB fun k0 r e => by rw [hu] at e; cases e).mono (by omega) (by omega) fun v l h => ?_
    have e : byF a b = byL a b := by unfold byF byL; rw [hu]
    rw [e]; exact h
  | cons k0 r =>
    by_cases hgt : a k0 > b k0
    · refine (byFigHigh w A1 B1 a b ta tb ca cb news hA hB k0 r hu hgt fun k r' e => ?_).mono (by omega) (by omega) fun v l h => ?_
      · rw [← unl_symm, hu] at e
        obtain rfl : k0 = k := (List.cons.inj e).1
        omega
      · have e : byF a b = -(byL b a) := by unfold byF; rw [hu]; exact if_pos hgt
        rw [e]; exact h
    · refine (byFigLow w A1 B1 a b ta tb ca cb news hA hB fun k r' e => ?_).mono (by omega) (by omega) fun v l h => ?_
      · rw [hu] at e
        obtain rfl : k0 = k := (List.cons.inj e).1
        omega
      · have e : byF a b = byL a b := by unfold byF; rw [hu]; exact if_neg hgt
        rw [e]; exact h

end
section

/-! ## _law_due -/
@[reducible] def tupO (s : Bool) (A : Addr) : Obj := { cls := .type "tuple", data := .seq #[.bool s, .ref A] 0 }
def zero4 (a : Nat → Int) : Bool := a 0 == 0 && (a 1 == 0 && (a 2 == 0 && a 3 == 0))
def dueV (s1 : Bool) (a : Nat → Int) (s2 : Bool) (b : Nat → Int) : Int :=
  match s1, s2 with
  | true, true => byF b a
  | false, false => byF a b
  | true, false => bif zero4 a && zero4 b then 0 else -1
  | false, true => bif zero4 a && zero4 b then 0 else 1
example {M : Model} {A : Around} {E : Value → Shared → Prop} {s : Shared} {env : Env} {Q : Flow → Shared → Prop} (h : Q .next s) : wpAny M A (execs [] env) Q E s := by
  walk1
  exact h
section
local macro_rules | `(tactic| k_mem) => `(tactic| assumption)
theorem dueSame (w : World) (T1 T2 A1 B1 : Addr) (s1 : Bool) (a b : Nat → Int) (ta tb : Nat → Tok) (ca cb : Nat) (news : Led) (hT1 : (T1, tupO s1 A1) ∈ news) (hT2 : (T2, tupO s1 B1) ∈ news) (hA : (A1, four a ta ca) ∈ news) (hB : (B1, four b tb cb) ∈ news) :
    Claim w 18 160 859 news [.ref T1, .ref T2] (fun v l => (∃ t, v = .int (dueV s1 a s1 b) t) ∧ l = news) := by
  intro p loose mean mg mb dp un gd cn cs a' ccd cl outer A₀ base h₀ L m s Q E B F X N T hk hdp hun hret
  refine wpAny_call ?_
  cases s1 with
  | true =>
    k_enter
    repeat' (first | (k_here; (with_reducible show wpAny _ _ (call (Value.ref 852) _) _ _ _); k_dflt (refine' (byFigK _ _ _ _ _ _ _ _ _ _ ?hA ?hB).use ?k1 ?k2 ?k3 ?k4 ?k5 ?k6 ?k7 ?k8 ?_; (case k4 => k_asm); (case hA => k_mem); (case hB => k_mem); (case k1 => k_asm); (case k2 => k_asm); (case k3 => k_asm); (case k5 => k_asm); (case k6 => first | exact rfl | assumption); (case k7 => k_room); (case k8 => (try dsimp only); omega)); intro v' l' h' tk' hR' F' N'; obtain ⟨⟨t', e1'⟩, e2'⟩ := hR'; subst e1'; rw [e2'] at N'; clear e2'; (try k_sweep)) | (k_unfold; (try dsimp only)) | walk1 | (dsimp only; walk1) | (leave1; (try dsimp only)))
    exact hret _ _ _ _ ⟨⟨_, rfl⟩, rfl⟩ (by assumption) (by assumption)
  | false =>
    k_enter
    repeat' (first | (k_here; (with_reducible show wpAny _ _ (call (Value.ref 852) _) _ _ _); k_dflt (refine' (byFigK _ _ _ _ _ _ _ _ _ _ ?hA ?hB).use ?k1 ?k2 ?k3 ?k4 ?k5 ?k6 ?k7 ?k8 ?_; (case k4 => k_asm); (case hA => k_mem); (case hB => k_mem); (case k1 => k_asm); (case k2 => k_asm); (case k3 => k_asm); (case k5 => k_asm); (case k6 => first | exact rfl | assumption); (case k7 => k_room); (case k8 => (try dsimp only); omega)); intro v' l' h' tk' hR' F' N'; obtain ⟨⟨t', e1'⟩, e2'⟩ := hR'; subst e1'; rw [e2'] at N'; clear e2'; (try k_sweep)) | (k_unfold; (try dsimp only)) | walk1 | (dsimp only; walk1) | (leave1; (try dsimp only)))
    exact hret _ _ _ _ ⟨⟨_, rfl⟩, rfl⟩ (by assumption) (by assumption)
end

end
section

/-! ## _law_due: one minus, one not -/
section
variable {prog : Program} {w : World} {A : Around} {E : Value → Shared → Prop} {s : Shared} {h₀ : Heap} {L : Addr} {news : Led}
theorem eq4 {A1 D2 : Addr} {a : Nat → Int} {ta : Nat → Tok} {ca c : Nat} {u0 u1 u2 u3 : Tok} {Q : Value → Shared → Prop} (N : News h₀ L s.heap news) (hm : (A1, four a ta ca) ∈ news) (hm2 : (D2, W.listOf #[.int 0 u0, .int 0 u1, .int 0 u2, .int 0 u3] c) ∈ news) (hu : A.units < cLine) (h : Q (.bool (zero4 a)) s) :
    wpAny (model prog w) A (compareOp .Eq (.ref A1) (.ref D2)) Q E s := by
  refine SeqAt.eq_listAt (items := #[.int (a 0) (ta 0), .int (a 1) (ta 1), .int (a 2) (ta 2), .int (a 3) (ta 3)]) (items2 := #[.int 0 u0, .int 0 u1, .int 0 u2, .int 0 u3]) (e := fun j => a j == 0) ⟨_, (N _ hm).1, rfl, _, rfl⟩ ⟨_, (N _ hm2).1, rfl, _, rfl⟩ rfl hu ?_ ?_
  · intro j h1 h2 prog w E Q hq
    have h1 : j < 4 := h1
    match j, h1 with
    | 0, _ => exact wpAny_eqBool_int hq
    | 1, _ => exact wpAny_eqBool_int hq
    | 2, _ => exact wpAny_eqBool_int hq
    | 3, _ => exact wpAny_eqBool_int hq
  · have e : (List.range (#[.int (a 0) (ta 0), .int (a 1) (ta 1), .int (a 2) (ta 2), .int (a 3) (ta 3)] : Array Value).size).all (fun j => a j == 0) = zero4 a := by
      show (List.range 4).all (fun j => a j == 0) = zero4 a
      simp [List.range, List.range.loop, zero4]
    rw [e]
    exact h
end
example {M : Model} {A : Around} {E : Value → Shared → Prop} {s : Shared} {env : Env} {Q : Flow → Shared → Prop} (h : Q .next s) : wpAny M A (execs [] env) Q E s := by
  walk1
  exact h
section
local macro_rules | `(tactic| k_mem) => `(tactic| assumption)
local macro_rules | `(tactic| walk_at "compareOp Eq ref ref") => `(tactic| (k_here; k_dflt (refine' eq4 ?N ?m ?m2 ?u ?_; (case N => k_asm); (case m => k_mem); (case m2 => k_mem); (case u => exact units_ok (by assumption)))))
theorem dueMix (w : World) (T1 T2 A1 B1 : Addr) (s1 : Bool) (a b : Nat → Int) (ta tb : Nat → Tok) (ca cb : Nat) (news : Led) (hT1 : (T1, tupO s1 A1) ∈ news) (hT2 : (T2, tupO (!s1) B1) ∈ news) (hA : (A1, four a ta ca) ∈ news) (hB : (B1, four b tb cb) ∈ news) :
    Claim w 18 160 859 news [.ref T1, .ref T2] (fun v l => (∃ t, v = .int (dueV s1 a (!s1) b) t) ∧ l = news) := by
  intro p loose mean mg mb dp un gd cn cs a' ccd cl outer A₀ base h₀ L m s Q E B F X N T hk hdp hun hret
  have hun' : un + 70 < cLine := by omega
  refine wpAny_call ?_
  cases s1 with
  | true =>
    have hT2 : (T2, tupO false B1) ∈ news := hT2
    k_enter
    repeat' (first | (k_unfold; (try dsimp only)) | walk1 | (dsimp only; walk1) | (leave1; (try dsimp only)))
    all_goals have e1 : ∀ x y, zero4 a = x → zero4 b = y → dueV true a false b = bif x && y then 0 else -1 := by intro x y h1 h2; simp only [dueV, h1, h2]
    all_goals have e2 : zero4 a = false → dueV true a false b = -1 := by intro h1; simp only [dueV, h1, Bool.false_and, cond_false]
    all_goals first
      | exact hret _ _ _ _ ⟨⟨_, congrArg (Value.int · _) (e1 true true (by assumption) (by assumption)).symm⟩, rfl⟩ (by assumption) (news_sub (by assumption) fun q hq => .tail _ (.tail _ hq))
      | exact hret _ _ _ _ ⟨⟨_, congrArg (Value.int · _) (e1 true false (by assumption) (by assumption)).symm⟩, rfl⟩ (by assumption) (news_sub (by assumption) fun q hq => .tail _ (.tail _ hq))
      | exact hret _ _ _ _ ⟨⟨_, congrArg (Value.int · _) (e2 (by assumption)).symm⟩, rfl⟩ (by assumption) (news_sub (by assumption) fun q hq => .tail _ hq)
  | false =>
    have hT2 : (T2, tupO true B1) ∈ news := hT2
    k_enter
    repeat' (first | (k_unfold; (try dsimp only)) | walk1 | (dsimp only; walk1) | (leave1; (try dsimp only)))
    all_goals have e1 : ∀ x y, zero4 a = x → zero4 b = y → dueV false a true b = bif x && y then 0 else 1 := by intro x y h1 h2; simp only [dueV, h1, h2]
    all_goals have e2 : zero4 a = false → dueV false a true b = 1 := by intro h1; simp only [dueV, h1, Bool.false_and, cond_false]
    all_goals first
      | exact hret _ _ _ _ ⟨⟨_, congrArg (Value.int · _) (e1 true true (by assumption) (by assumption)).symm⟩, rfl⟩ (by assumption) (news_sub (by assumption) fun q hq => .tail _ (.tail _ hq))
      | exact hret _ _ _ _ ⟨⟨_, congrArg (Value.int · _) (e1 true false (by assumption) (by assumption)).symm⟩, rfl⟩ (by assumption) (news_sub (by assumption) fun q hq => .tail _ (.tail _ hq))
      | exact hret _ _ _ _ ⟨⟨_, congrArg (Value.int · _) (e2 (by assumption)).symm⟩, rfl⟩ (by assumption) (news_sub (by assumption) fun q hq => .tail _ hq)
end
theorem dueK (w : World) (T1 T2 A1 B1 : Addr) (s1 s2 : Bool) (a b : Nat → Int) (ta tb : Nat → Tok) (ca cb : Nat) (news : Led) (hT1 : (T1, tupO s1 A1) ∈ news) (hT2 : (T2, tupO s2 B1) ∈ news) (hA : (A1, four a ta ca) ∈ news) (hB : (B1, four b tb cb) ∈ news) :
    Claim w 18 160 859 news [.ref T1, .ref T2] (fun v l => (∃ t, v = .int (dueV s1 a s2 b) t) ∧ l = news) := by
  cases s1 <;> cases s2
  · exact dueSame w T1 T2 A1 B1 false a b ta tb ca cb news hT1 hT2 hA hB
  · exact dueMix w T1 T2 A1 B1 false a b ta tb ca cb news hT1 hT2 hA hB
  · exact dueMix w T1 T2 A1 B1 true a b ta tb ca cb news hT1 hT2 hA hB
  · exact dueSame w T1 T2 A1 B1 true a b ta tb ca cb news hT1 hT2 hA hB

end
section


/-! ## the law of the clocks: the figures tell which offset is the lesser -/
def wt (a : Nat → Int) : Int := 600 * a 0 + 60 * a 1 + 10 * a 2 + a 3
theorem unl4 (a b : Nat → Int) : unl a b 4 = (if a 0 = b 0 then [] else [0]) ++ ((if a 1 = b 1 then [] else [1]) ++ ((if a 2 = b 2 then [] else [2]) ++ (if a 3 = b 3 then [] else [3]))) := by
  have e : List.range 4 = [0, 1, 2, 3] := rfl
  unfold unl
  rw [e]
  by_cases h0 : a 0 = b 0 <;> by_cases h1 : a 1 = b 1 <;> by_cases h2 : a 2 = b 2 <;> by_cases h3 : a 3 = b 3 <;> simp [h0, h1, h2, h3]
structure Small (a : Nat → Int) : Prop where
  l0 : 0 ≤ a 0
  l1 : 0 ≤ a 1
  l2 : 0 ≤ a 2
  l3 : 0 ≤ a 3
  u0 : a 0 < 8
  u1 : a 1 < 8
  u2 : a 2 < 8
  u3 : a 3 < 8
theorem byL_low {a b : Nat → Int} (ha : Small a) (hb : Small b) {k0 : Nat} {r : List Nat} (hu : unl a b 4 = k0 :: r) (hk : a k0 < b k0) : byL a b = cmpI (wt a) (wt b) := by
  obtain ⟨l0, l1, l2, l3, u0, u1, u2, u3⟩ := ha
  obtain ⟨m0, m1, m2, m3, v0, v1, v2, v3⟩ := hb
  have e : byL a b = byLow a b k0 := by unfold byL; rw [hu]
  rw [e]
  rw [unl4] at hu
  unfold byLow cmpI wt
  by_cases h0 : a 0 = b 0
  · by_cases h1 : a 1 = b 1
    · by_cases h2 : a 2 = b 2
      · by_cases h3 : a 3 = b 3
        · simp [h0, h1, h2, h3] at hu
        · simp [h0, h1, h2, h3] at hu
          obtain ⟨rfl, _⟩ := hu
          rw [if_pos (by decide), if_pos (by omega)]
      · simp [h0, h1, h2] at hu
        obtain ⟨rfl, _⟩ := hu
        rw [if_pos (by decide), if_pos (by omega)]
    · simp [h0, h1] at hu
      obtain ⟨rfl, _⟩ := hu
      rw [if_neg (by decide)]
      by_cases c1 : b 1 - a 1 = 1
      · rw [if_neg (fun q => q c1)]
        by_cases c2 : a 2 - b 2 = 7
        · rw [if_pos c2, if_neg (by omega), if_pos (by omega)]
        · rw [if_neg c2]
          by_cases c3 : a 2 - b 2 = 6
          · rw [if_pos c3]
            by_cases q1 : a 3 < b 3
            · rw [if_pos q1, if_pos (by omega)]
            · rw [if_neg q1]
              by_cases q2 : a 3 > b 3
              · rw [if_pos q2, if_neg (by omega), if_pos (by omega)]
              · rw [if_neg q2, if_neg (by omega), if_neg (by omega)]
          · rw [if_neg c3, if_pos (by omega)]
      · rw [if_pos c1, if_pos (by omega)]
  · simp [h0] at hu
    obtain ⟨rfl, _⟩ := hu
    rw [if_pos (by decide), if_pos (by omega)]
theorem cmp_neg (x y : Int) : cmpI x y = -cmpI y x := by
  unfold cmpI
  (repeat' split) <;> first | rfl | omega
theorem byF_cmp {a b : Nat → Int} (ha : Small a) (hb : Small b) : byF a b = cmpI (wt a) (wt b) := by
  cases hu : unl a b 4 with
  | nil =>
    have e : byF a b = 0 := by unfold byF; rw [hu]
    rw [e]
    rw [unl4] at hu
    by_cases h0 : a 0 = b 0 <;> by_cases h1 : a 1 = b 1 <;> by_cases h2 : a 2 = b 2 <;> by_cases h3 : a 3 = b 3 <;> simp [h0, h1, h2, h3] at hu
    have : wt a = wt b := by unfold wt; omega
    rw [this]
    unfold cmpI
    rw [if_neg (by omega), if_neg (by omega)]
  | cons k0 r =>
    have hne : a k0 ≠ b k0 := by
      have : k0 ∈ unl a b 4 := by rw [hu]; exact .head _
      have := (List.mem_filter.mp this).2
      simpa using this
    by_cases hgt : a k0 > b k0
    · have e : byF a b = -(byL b a) := by unfold byF; rw [hu]; exact if_pos hgt
      rw [e, byL_low hb ha (by rw [unl_symm]; exact hu) hgt, cmp_neg (wt a)]
    · have e : byF a b = byL a b := by unfold byF; rw [hu]; exact if_neg hgt
      rw [e, byL_low ha hb hu (by omega)]
theorem zero_wt {a : Nat → Int} (ha : Small a) : (zero4 a = true ↔ wt a = 0) ∧ 0 ≤ wt a := by
  obtain ⟨l0, l1, l2, l3, u0, u1, u2, u3⟩ := ha
  refine ⟨?_, by unfold wt; omega⟩
  unfold zero4 wt
  simp only [Bool.and_eq_true, beq_iff_eq]
  omega
def figF (d0 d1 d2 d3 : Nat) : Nat → Int
  | 0 => d0
  | 1 => d1
  | 2 => d2
  | _ => d3
theorem figF_small {d0 d1 d2 d3 : Nat} (h0 : d0 < 8) (h1 : d1 < 8) (h2 : d2 < 8) (h3 : d3 < 8) : Small (figF d0 d1 d2 d3) := ⟨by simp [figF], by simp [figF], by simp [figF], by simp [figF], by simp [figF]; omega, by simp [figF]; omega, by simp [figF]; omega, by simp [figF]; omega⟩
theorem off_wt (d0 d1 d2 d3 look : Nat) : offV d0 d1 d2 d3 look = (if look < 3 then 60 * wt (figF d0 d1 d2 d3) else -(60 * wt (figF d0 d1 d2 d3))) := by
  match look with
  | 0 => show 3600 * (10 * (d0 : Int) + d1) + 60 * (10 * d2 + d3) = _; simp [wt, figF]; omega
  | 1 => show 3600 * (10 * (d0 : Int) + d1) + 60 * (10 * d2 + d3) = _; simp [wt, figF]; omega
  | 2 => show 3600 * (10 * (d0 : Int) + d1) + 60 * (10 * d2 + d3) = _; simp [wt, figF]; omega
  | n + 3 => show -(3600 * (10 * (d0 : Int) + d1) + 60 * (10 * d2 + d3)) = _; rw [if_neg (by omega)]; simp [wt, figF]; omega
theorem cmp_scale (x y : Int) : cmpI (60 * x) (60 * y) = cmpI x y := by
  unfold cmpI
  by_cases h : x < y
  · rw [if_pos h, if_pos (by omega)]
  · rw [if_neg h, if_neg (by omega)]
    by_cases h2 : x > y
    · rw [if_pos h2, if_pos (by omega)]
    · rw [if_neg h2, if_neg (by omega)]
theorem cmp_negs (x y : Int) : cmpI (-x) (-y) = cmpI y x := by
  unfold cmpI
  by_cases h : y < x
  · rw [if_pos h, if_pos (by omega)]
  · rw [if_neg h, if_neg (by omega)]
    by_cases h2 : y > x
    · rw [if_pos h2, if_pos (by omega)]
    · rw [if_neg h2, if_neg (by omega)]
theorem cmp_mix {x y : Int} (hx : 0 ≤ x) (hy : 0 ≤ y) : cmpI (-(60 * x)) (60 * y) = bif x == 0 && y == 0 then 0 else -1 := by
  unfold cmpI
  by_cases h : x = 0 ∧ y = 0
  · obtain ⟨rfl, rfl⟩ := h
    rfl
  · have e : (x == 0 && y == 0) = false := by
      rw [Bool.eq_false_iff]
      intro q
      rw [Bool.and_eq_true, beq_iff_eq, beq_iff_eq] at q
      exact h q
    rw [e, if_pos (by omega)]
    rfl
theorem zero_wt' {a : Nat → Int} (ha : Small a) : zero4 a = (wt a == 0) := by
  rw [Bool.eq_iff_iff, beq_iff_eq]
  exact (zero_wt ha).1
/-- the closing law -/
theorem told_due {d0 d1 d2 d3 look e0 e1 e2 e3 look' : Nat} (h0 : d0 < 8) (h1 : d1 < 8) (h2 : d2 < 8) (h3 : d3 < 8) (hl : look < 4) (g0 : e0 < 8) (g1 : e1 < 8) (g2 : e2 < 8) (g3 : e3 < 8) (gl : look' < 4) :
    cmpI (offV d0 d1 d2 d3 look) (offV e0 e1 e2 e3 look') = dueV (look == 3) (figF d0 d1 d2 d3) (look' == 3) (figF e0 e1 e2 e3) := by
  have sa := figF_small h0 h1 h2 h3
  have sb := figF_small g0 g1 g2 g3
  rw [off_wt, off_wt]
  have na := (zero_wt sa).2
  have nb := (zero_wt sb).2
  have za := zero_wt' sa
  have zb := zero_wt' sb
  have ba := byF_cmp sa sb
  have bb := byF_cmp sb sa
  have low : ∀ k : Nat, k < 4 → k ≠ 3 → k < 3 := fun k h h' => by omega
  generalize figF d0 d1 d2 d3 = a at *
  generalize figF e0 e1 e2 e3 = b at *
  generalize wt a = x at *
  generalize wt b = y at *
  by_cases c1 : look = 3 <;> by_cases c2 : look' = 3
  · subst c1 c2
    rw [if_neg (by decide), if_neg (by decide), cmp_negs, cmp_scale]
    exact bb.symm
  · have q2 : (look' == 3) = false := beq_eq_false_iff_ne.mpr c2
    subst c1
    rw [q2, if_neg (by decide), if_pos (low _ gl c2), cmp_mix na nb, ← za, ← zb]
    rfl
  · have q1 : (look == 3) = false := beq_eq_false_iff_ne.mpr c1
    subst c2
    rw [q1, if_pos (low _ hl c1), if_neg (by decide), cmp_neg, cmp_mix nb na, ← za, ← zb]
    show -(bif zero4 b && zero4 a then (0 : Int) else -1) = (bif zero4 a && zero4 b then (0 : Int) else 1)
    cases zero4 a <;> cases zero4 b <;> rfl
  · have q1 : (look == 3) = false := beq_eq_false_iff_ne.mpr c1
    have q2 : (look' == 3) = false := beq_eq_false_iff_ne.mpr c2
    rw [q1, q2, if_pos (low _ hl c1), if_pos (low _ gl c2), cmp_scale]
    exact ba.symm

end
section

/-! ## the law's comprehensions, over any number of draws -/
structure Draw (x : Int) (d0 d1 d2 d3 look way : Nat) : Prop where
  f : Figs (x.fmod 4096) d0 d1 d2 d3
  l : (x.fdiv 4096).fmod 4 = (look : Int)
  w : (x.fdiv 16384).fmod 4 = (way : Int)
  hl : look < 4
  hw : way < 4
def RT (x : Int) : Nat := (x.fmod 4096).toNat
def D0 (x : Int) : Nat := RT x / 512
def D1 (x : Int) : Nat := RT x / 64 % 8
def D2 (x : Int) : Nat := RT x / 8 % 8
def D3 (x : Int) : Nat := RT x % 8
def LK (x : Int) : Nat := ((x.fdiv 4096).fmod 4).toNat
def WY (x : Int) : Nat := ((x.fdiv 16384).fmod 4).toNat
def clkX (x : Int) : List Nat := clkL (D0 x) (D1 x) (D2 x) (D3 x) (LK x)
theorem fm_nat (x : Int) {k : Nat} (hk : (0 : Int) < (k : Int)) : x.fmod (k : Int) = (((x.fmod (k : Int)).toNat : Nat) : Int) ∧ (x.fmod (k : Int)).toNat < k := by
  have h1 := Int.fmod_nonneg_of_pos x hk
  have h2 := Int.fmod_lt_of_pos x hk
  omega
theorem RT_lt (x : Int) : RT x < 4096 := (fm_nat x (k := 4096) (by decide)).2
theorem draw_of (x : Int) : Draw x (D0 x) (D1 x) (D2 x) (D3 x) (LK x) (WY x) := by
  have hr : x.fmod 4096 = ((RT x : Nat) : Int) := (fm_nat x (k := 4096) (by decide)).1
  have hlt := RT_lt x
  have key : RT x = 512 * D0 x + 64 * D1 x + 8 * D2 x + D3 x := by unfold D0 D1 D2 D3; omega
  refine ⟨⟨Nat.div_lt_of_lt_mul hlt, Nat.mod_lt _ (by decide), Nat.mod_lt _ (by decide), Nat.mod_lt _ (by decide), ?_⟩, (fm_nat _ (k := 4) (by decide)).1, (fm_nat _ (k := 4) (by decide)).1, (fm_nat _ (k := 4) (by decide)).2, (fm_nat _ (k := 4) (by decide)).2⟩
  rw [hr, key]
  simp only [Int.natCast_add, Int.natCast_mul]
  rfl
abbrev xScope : Scope := ⟨.function, [(Str.ofString ".0", .local), (Str.ofString "x", .local), (Str.ofString "_law_clock", .globalImplicit)], false, false, []⟩
example {M : Model} {A : Around} {E : Value → Shared → Prop} {s : Shared} {env : Env} {Q : Flow → Shared → Prop} (h : Q .next s) : wpAny M A (execs [] env) Q E s := by
  walk1
  exact h
section
local macro_rules | `(tactic| k_mem) => `(tactic| assumption)
theorem clockElt {w : World} {p : Program} {loose : List Str} {mean : ExcName → Option Value} {mg mb : Str → Option Value} {dp un : Nat} {gd : Option (List Code)} {cn : Str} {cs : Scope} {a : Addr} {ccd : Value} {cl : List (Str × Addr)} {A₀ : Around} {base h₀ : Heap} {L C : Addr} {m m₂ : Str → Option Value} {oC : Obj} {news : Led} {s : Shared} {Q E : Value → Shared → Prop} {x : Int} {t : Tok} {d0 d1 d2 d3 look way : Nat} {p1 p2 p3 p4 p5 p6 p7 p8 p9 p10 : Pos}
    (B : Below A₀ base [] h₀) (F : Fr h₀ L s.heap m) (X : (K w.params).In h₀) (N : News h₀ L s.heap news) (hC : (C, oC) ∈ news) (T : Top p loose mean mg mb h₀) (hk : cs.kind = .function) (hdp : dp + 10 < recursionLimit) (hun : un + 60 < cLine)
    (hc : LCg.NsObj oC m₂) (hx : m₂ (Str.ofString "x") = some (.int x t)) (D : Draw x d0 d1 d2 d3 look way)
    (hret : ∀ h' tk' t', Fr h₀ L h' m → News h₀ L h' news → Q (.str (strL (clkL d0 d1 d2 d3 look)) t') { s with heap := h', toks := tk' }) :
    wpAny (model PySem.Challenge.pw_oc0295_01 w) (ktrTop dp un gd cn cs L a ccd cl []) (eval (.Call (.Name (Str.ofString "_law_clock") p1) [.BinOp (.Name (Str.ofString "x") p2) .Mod (.Constant (.int 4096) 0 p3) p4, .BinOp (.BinOp (.Name (Str.ofString "x") p5) .FloorDiv (.Constant (.int 4096) 0 p6) p7) .Mod (.Constant (.int 4) 0 p8) p9] [] p10)
      (compEnvC xScope [] C (envX cn cs L a ccd cl))) Q E s := by
  have hf := D.f
  have h3 : (x.fdiv 4096).fmod 4 = 0 ∨ (x.fdiv 4096).fmod 4 = 1 ∨ (x.fdiv 4096).fmod 4 = 2 ∨ (x.fdiv 4096).fmod 4 = 3 := by
    have := D.l
    have := D.hl
    omega
  have e : ((x.fdiv 4096).fmod 4).toNat = look := by rw [D.l]; rfl
  repeat' (first | (k_here; (with_reducible show wpAny _ _ (call (Value.ref 826) _) _ _ _); k_dflt (refine' (clockK _ _ _ _ _ _ _ ?hf _ _ _ ?h3).use ?k1 ?k2 ?k3 ?k4 ?k5 ?k6 ?k7 ?k8 ?_; (case hf => assumption); (case h3 => assumption); (case k1 => k_asm); (case k2 => k_asm); (case k3 => k_asm); (case k4 => k_asm); (case k5 => k_asm); (case k6 => first | exact rfl | assumption); (case k7 => k_room); (case k8 => (try dsimp only); omega)); intro v' l' h' tk' hR' F' N'; obtain ⟨⟨t', e1'⟩, e2'⟩ := hR'; subst e1'; rw [e2'] at N'; clear e2'; (try k_sweep)) | (k_unfold; (try dsimp only)) | walk1 | (dsimp only; walk1) | (leave1; (try dsimp only)))
  rw [e]
  exact hret _ _ _ (by assumption) (by assumption)
end
theorem ints_get {ws : List Value} {xs : List Int} (h : IntsAre ws xs) {i : Nat} {v : Value} (e : ws[i]? = some v) : ∃ x t, xs[i]? = some x ∧ v = .int x t := by
  induction h generalizing i with
  | nil => simp at e
  | cons n t _ ih =>
    cases i with
    | zero =>
      have e : Value.int n t = v := by simpa using e
      exact ⟨n, t, rfl, e.symm⟩
    | succ i =>
      obtain ⟨x, t', h1, h2⟩ := ih (i := i) (by simpa using e)
      exact ⟨x, t', by simpa using h1, h2⟩
theorem clocksRest {w : World} {p : Program} {loose : List Str} {mean : ExcName → Option Value} {mg mb : Str → Option Value} {dp un : Nat} {gd : Option (List Code)} {cn : Str} {cs : Scope} {a : Addr} {ccd : Value} {cl : List (Str × Addr)} {A₀ : Around} {base h₀ : Heap} {L : Addr} {m : Str → Option Value} {news : Led} {s : Shared} {S : Led → Prop} {Fin : List Value → Led → Prop} {xs : List Int} {ws : List Value} {p1 p2 p3 p4 p5 p6 p7 p8 p9 p10 : Pos}
    (B : Below A₀ base [] h₀) (X : (K w.params).In h₀) (T : Top p loose mean mg mb h₀) (hk : cs.kind = .function) (hdp : dp + 10 < recursionLimit) (hun : un + 60 < cLine) (hI : IntsAre ws xs) (hS : S news)
    (hFin : ∀ ys, StrVs (xs.map clkX) ys → Fin ys news) : ∀ (k i : Nat) (ys : List Value), i + k = xs.length → StrVs ((xs.take i).map clkX) ys →
    LCg.CompRest PySem.Challenge.pw_oc0295_01 w (ktrTop dp un gd cn cs L a ccd cl []) h₀ L m (envX cn cs L a ccd cl) (.Call (.Name (Str.ofString "_law_clock") p1) [.BinOp (.Name (Str.ofString "x") p2) .Mod (.Constant (.int 4096) 0 p3) p4, .BinOp (.BinOp (.Name (Str.ofString "x") p5) .FloorDiv (.Constant (.int 4096) 0 p6) p7) .Mod (.Constant (.int 4) 0 p8) p9] [] p10)
      (Str.ofString "x") xScope [] s S (fun i v => ws.toArray[i]? = some v) Fin k i ys news
  | 0, i, ys, hi, hv => by
    have : i = xs.length := by omega
    subst this
    rw [List.take_length] at hv
    exact LCg.CompRest.zero (hFin ys hv)
  | k + 1, i, ys, hi, hv => by
    refine LCg.CompRest.succ ?_
    rintro v I oI C oC D m₂ h tk E' hP hc hx F N off hne
    obtain ⟨x, t, hxi, rfl⟩ := ints_get hI (i := i) (by simpa using hP)
    refine clockElt B F X N (.tail _ (.head _)) T hk hdp hun hc hx (draw_of x) fun h' tk' t' F' N' => ?_
    refine ⟨h', tk', _, rfl, F', N', off, hS, clocksRest B X T hk hdp hun hI hS hFin k (i + 1) _ (by omega) ?_⟩
    rw [List.take_add_one, hxi]
    simp only [Option.toList_some, List.map_append, List.map_cons, List.map_nil]
    exact hv.snoc
abbrev yScope : Scope := ⟨.function, [(Str.ofString ".0", .local), (Str.ofString "y", .local)], false, false, []⟩
example {M : Model} {A : Around} {E : Value → Shared → Prop} {s : Shared} {env : Env} {Q : Flow → Shared → Prop} (h : Q .next s) : wpAny M A (execs [] env) Q E s := by
  walk1
  exact h
section
local macro_rules | `(tactic| k_mem) => `(tactic| assumption)
theorem wayElt {w : World} {A : Around} {h₀ : Heap} {L C : Addr} {m m₂ : Str → Option Value} {oC : Obj} {news : Led} {s : Shared} {Q E : Value → Shared → Prop} {x : Int} {t : Tok} {p1 p2 p3 p4 p5 : Pos} {cn : Str} {cs : Scope} {a : Addr} {ccd : Value} {cl : List (Str × Addr)}
    (F : Fr h₀ L s.heap m) (X : (K w.params).In h₀) (N : News h₀ L s.heap news) (hC : (C, oC) ∈ news) (hc : LCg.NsObj oC m₂) (hx : m₂ (Str.ofString "y") = some (.int x t))
    (hret : ∀ tk' t', Q (.int (WY x : Int) t') { s with toks := tk' }) :
    wpAny (model PySem.Challenge.pw_oc0295_01 w) A (eval (.BinOp (.BinOp (.Name (Str.ofString "y") p1) .FloorDiv (.Constant (.int 16384) 0 p2) p3) .Mod (.Constant (.int 4) 0 p4) p5) (compEnvC yScope [] C (envX cn cs L a ccd cl))) Q E s := by
  have e : (x.fdiv 16384).fmod 4 = (WY x : Int) := (draw_of x).w
  repeat' (first | (k_unfold; (try dsimp only)) | walk1 | (dsimp only; walk1) | (leave1; (try dsimp only)))
  rw [e]
  exact hret _ _
end
theorem waysRest {w : World} {A : Around} {h₀ : Heap} {L : Addr} {m : Str → Option Value} {news : Led} {s : Shared} {S : Led → Prop} {Fin : List Value → Led → Prop} {xs : List Int} {ws : List Value} {cn : Str} {cs : Scope} {a : Addr} {ccd : Value} {cl : List (Str × Addr)} {p1 p2 p3 p4 p5 : Pos}
    (X : (K w.params).In h₀) (hI : IntsAre ws xs) (hS : S news) (hFin : ∀ ys, IntVs (xs.map WY) ys → Fin ys news) : ∀ (k i : Nat) (ys : List Value), i + k = xs.length → IntVs ((xs.take i).map WY) ys →
    LCg.CompRest PySem.Challenge.pw_oc0295_01 w A h₀ L m (envX cn cs L a ccd cl) (.BinOp (.BinOp (.Name (Str.ofString "y") p1) .FloorDiv (.Constant (.int 16384) 0 p2) p3) .Mod (.Constant (.int 4) 0 p4) p5)
      (Str.ofString "y") yScope [] s S (fun i v => ws.toArray[i]? = some v) Fin k i ys news
  | 0, i, ys, hi, hv => by
    have : i = xs.length := by omega
    subst this
    rw [List.take_length] at hv
    exact LCg.CompRest.zero (hFin ys hv)
  | k + 1, i, ys, hi, hv => by
    refine LCg.CompRest.succ ?_
    rintro v I oI C oC D m₂ h tk E' hP hc hx F N off hne
    obtain ⟨x, t, hxi, rfl⟩ := ints_get hI (i := i) (by simpa using hP)
    refine wayElt (s := { s with heap := h, toks := tk }) F X N (.tail _ (.head _)) hc hx fun tk' t' => ?_
    refine ⟨h, tk', _, rfl, F, N, off, hS, waysRest X hI hS hFin k (i + 1) _ (by omega) ?_⟩
    rw [List.take_add_one, hxi]
    simp only [Option.toList_some, List.map_append, List.map_cons, List.map_nil]
    exact hv.snoc

end
section

/-! ## the spelled words -/
theorem itemLst {prog : Program} {w : World} {A : Around} {E : Value → Shared → Prop} {s : Shared} {h₀ : Heap} {L D : Addr} {news : Led} {value slice : Expr} {vs : List Value} {v : Value} {i : Nat} {k : Int} {u : Tok} {Q : Value → Shared → Prop} (N : News h₀ L s.heap news) (hm : (D, LCg.lst vs) ∈ news) (hv : vs[i]? = some v) (hk : k = (i : Int)) (hi : i < 100) (h : Q v s)
    (hs : subscripted slice false (.ref D) (.int k u) = operate [.ref D, .int k u] (getItem (.ref D) (.int k u)) := by with_unfolding_all rfl) :
    wpAny (model prog w) A (subscriptTail value slice (.ref D) (.int k u)) Q E s := by
  have hl : s.heap.IsList D vs.toArray := ⟨_, (N _ hm).1, rfl, _, rfl⟩
  subst hk
  refine tail_any hl.typeIs slot_list_getitem.lookup (wpAny_getItem_list hl (by omega) (by omega) ?_ h) hs
  rw [Int.toNat_natCast]
  simpa using hv
abbrev iScope : Scope := ⟨.function, [(Str.ofString ".0", .local), (Str.ofString "i", .local), (Str.ofString "_law_spelled", .globalImplicit), (Str.ofString "clocks", .free), (Str.ofString "ways", .free)], false, false, []⟩
abbrev cellsCW (cc cw : Addr) : List (Str × Addr) := [(Str.ofString "ways", cw), (Str.ofString "clocks", cc)]
noncomputable abbrev lawScope : Scope := cap864.1.scope
noncomputable abbrev lawEnv (L a : Addr) (ccd : Value) (cc cw : Addr) : Env := envX (Str.ofString "law") lawScope L a ccd [(Str.ofString "ways", cw), (Str.ofString "clocks", cc)]
noncomputable abbrev lawA (dp un : Nat) (gd : Option (List Code)) (L a : Addr) (ccd : Value) (cc cw : Addr) : Around := ktrTop dp un gd (Str.ofString "law") lawScope L a ccd [(Str.ofString "ways", cw), (Str.ofString "clocks", cc)] []
theorem ldCellC {M : Model} {A : Around} {E : Value → Shared → Prop} {s : Shared} {h₀ : Heap} {L C c : Addr} {news : Led} {scope : Scope} {cl : List (Str × Addr)} {env : Env} {x : Str} {pos : Pos} {v : Value} {o : Obj} {Q : Value → Shared → Prop} (N : News h₀ L s.heap news) (hc : cl.lookup x = some c) (hm : (c, o) ∈ news) (hd : o.data = .cell (some v)) (h : Q v s)
    (hk : (compEnvC scope cl C env).scope.kind = .function := by rfl) (hx : (compEnvC scope cl C env).kindOf x = some .cell := by rfl) (hb : (x == ("__debug__" : Str)) = false := by decide) :
    wpAny M A (eval (.Name x pos) (compEnvC scope cl C env)) Q E s := wpAny_Name (wpAny_loadName_cell hk hx hc ⟨o, (N _ hm).1, hd⟩ h) hb
theorem spelledElt {w : World} {p : Program} {loose : List Str} {mean : ExcName → Option Value} {mg mb : Str → Option Value} {dp un : Nat} {gd : Option (List Code)} {a : Addr} {ccd : Value} {A₀ : Around} {base h₀ : Heap} {L C cc cw Cl Wy : Addr} {m m₂ : Str → Option Value} {oC o1 o2 : Obj} {news : Led} {s : Shared} {Q E : Value → Shared → Prop} {i : Nat} {t tc tw : Tok} {cys wys : List Value} {x : List Nat} {way : Nat} {p1 p2 p3 p4 p5 p6 p7 p8 : Pos}
    (B : Below A₀ base [] h₀) (F : Fr h₀ L s.heap m) (X : (K w.params).In h₀) (N : News h₀ L s.heap news) (hC : (C, oC) ∈ news) (T : Top p loose mean mg mb h₀) (hdp : dp + 10 < recursionLimit) (hun : un + 60 < cLine)
    (hc : LCg.NsObj oC m₂) (hx : m₂ (Str.ofString "i") = some (.int (0 + (i : Int)) t)) (hi : i < 100) (hc1 : (cc, o1) ∈ news) (hc2 : (cw, o2) ∈ news) (d1 : o1.data = .cell (some (.ref Cl))) (d2 : o2.data = .cell (some (.ref Wy))) (hcl : (Cl, LCg.lst cys) ∈ news) (hwl : (Wy, LCg.lst wys) ∈ news)
    (g1 : cys[i]? = some (.str (strL x) tc)) (g2 : wys[i]? = some (.int (way : Int) tw)) (l1 : 2 ≤ x.length) (l2 : x.length < 10) (hw : (way : Int) = 0 ∨ (way : Int) = 1 ∨ (way : Int) = 2 ∨ (way : Int) = 3)
    (hret : ∀ h' tk' t', Fr h₀ L h' m → News h₀ L h' news → Q (.str (strL (spL x way)) t') { s with heap := h', toks := tk' }) :
    wpAny (model PySem.Challenge.pw_oc0295_01 w) (lawA dp un gd L a ccd cc cw) (eval (.Call (.Name (Str.ofString "_law_spelled") p1) [.Subscript (.Name (Str.ofString "clocks") p2) (.Name (Str.ofString "i") p3) p4, .Subscript (.Name (Str.ofString "ways") p5) (.Name (Str.ofString "i") p6) p7] [] p8)
      (compEnvC iScope (cellsCW cc cw) C (lawEnv L a ccd cc cw))) Q E s := by
  refine Call_ ?_
  refine LCgL.ld_global F X T (v := .ref 833) (by k_is) ?_
  refine callWith_K X (by k_is) ?_
  refine spliced_more ?_
  refine Subscript_ ?_
  refine ldCellC N rfl hc1 d1 ?_
  refine LCgL.ld_own N hC hc hx ?_
  refine itemLst N hcl g1 (by omega) hi ?_
  refine spliced_more ?_
  refine Subscript_ ?_
  refine ldCellC N rfl hc2 d2 ?_
  refine LCgL.ld_own N hC hc hx ?_
  refine itemLst N hwl g2 (by omega) hi ?_
  refine spliced_none ?_
  refine ⟨X.keeps F.keep, ?_⟩
  refine (spelledK w x (way : Int) l1 l2 tc tw news hw).use B F X N T rfl (by omega) (by omega) ?_
  intro v' l' h' tk' hR' F' N'
  obtain ⟨⟨t', rfl⟩, rfl⟩ := hR'
  exact hret _ _ _ F' N'
theorem IntVs.len : ∀ {ks : List Nat} {vs : List Value}, IntVs ks vs → vs.length = ks.length
  | _, _, .nil => rfl
  | _, _, .cons h => by simp [h.len]
theorem IntVs.get : ∀ {ks : List Nat} {vs : List Value}, IntVs ks vs → ∀ {i : Nat} {k : Nat}, ks[i]? = some k → ∃ t, vs[i]? = some (.int (k : Int) t)
  | _, _, .cons (k := k) (t := t) _, 0, k', e => by
    have e : k = k' := by simpa using e
    exact ⟨t, by rw [← e]; rfl⟩
  | _, _, .cons h, i + 1, k', e => by
    obtain ⟨t, h1⟩ := h.get (i := i) (by simpa using e)
    exact ⟨t, by simpa using h1⟩
theorem StrVs.at : ∀ {ws : List (List Nat)} {vs : List Value}, StrVs ws vs → ∀ {i : Nat} {x : List Nat}, ws[i]? = some x → ∃ t, vs[i]? = some (.str (strL x) t)
  | _, _, .cons (x := x) (t := t) _, 0, x', e => by
    have e : x = x' := by simpa using e
    exact ⟨t, by rw [← e]; rfl⟩
  | _, _, .cons h, i + 1, x', e => by
    obtain ⟨t, h1⟩ := h.at (i := i) (by simpa using e)
    exact ⟨t, by simpa using h1⟩
theorem clkX_ok (x : Int) : (∀ c ∈ clkX x, clk c = true) ∧ 4 ≤ (clkX x).length ∧ (clkX x).length ≤ 5 := by
  have D := draw_of x
  exact clkL_clk D.f.h0 D.f.h1 D.f.h2 D.f.h3
theorem way_cases (x : Int) : (WY x : Int) = 0 ∨ (WY x : Int) = 1 ∨ (WY x : Int) = 2 ∨ (WY x : Int) = 3 := by
  have := (draw_of x).hw
  omega
theorem spelledRest {w : World} {p : Program} {loose : List Str} {mean : ExcName → Option Value} {mg mb : Str → Option Value} {dp un : Nat} {gd : Option (List Code)} {a : Addr} {ccd : Value} {A₀ : Around} {base h₀ : Heap} {L cc cw Cl Wy : Addr} {m : Str → Option Value} {o1 o2 : Obj} {news : Led} {s : Shared} {Fin : List Value → Led → Prop} {xs : List Int} {cys wys : List Value} {p1 p2 p3 p4 p5 p6 p7 p8 : Pos}
    (B : Below A₀ base [] h₀) (X : (K w.params).In h₀) (T : Top p loose mean mg mb h₀) (hdp : dp + 10 < recursionLimit) (hun : un + 60 < cLine) (hn : xs.length < 100)
    (hc1 : (cc, o1) ∈ news) (hc2 : (cw, o2) ∈ news) (d1 : o1.data = .cell (some (.ref Cl))) (d2 : o2.data = .cell (some (.ref Wy))) (hcl : (Cl, LCg.lst cys) ∈ news) (hwl : (Wy, LCg.lst wys) ∈ news) (hcy : StrVs (xs.map clkX) cys) (hwy : IntVs (xs.map WY) wys)
    (hFin : ∀ ys, StrVs (xs.map fun x => spL (clkX x) (WY x)) ys → Fin ys news) : ∀ (k i : Nat) (ys : List Value), i + k = xs.length → StrVs ((xs.take i).map fun x => spL (clkX x) (WY x)) ys →
    LCg.CompRest PySem.Challenge.pw_oc0295_01 w (lawA dp un gd L a ccd cc cw) h₀ L m (lawEnv L a ccd cc cw) (.Call (.Name (Str.ofString "_law_spelled") p1) [.Subscript (.Name (Str.ofString "clocks") p2) (.Name (Str.ofString "i") p3) p4, .Subscript (.Name (Str.ofString "ways") p5) (.Name (Str.ofString "i") p6) p7] [] p8)
      (Str.ofString "i") iScope (cellsCW cc cw) s (fun _ => True) (fun i v => ∃ t, v = .int (0 + (i : Int)) t) Fin k i ys news
  | 0, i, ys, hi, hv => by
    have : i = xs.length := by omega
    subst this
    rw [List.take_length] at hv
    exact LCg.CompRest.zero (hFin ys hv)
  | k + 1, i, ys, hi, hv => by
    refine LCg.CompRest.succ ?_
    rintro v I oI C oC D m₂ h tk E' ⟨t, rfl⟩ hc hx F N off hne
    have hlt : i < xs.length := by omega
    have hxi : xs[i]? = some xs[i] := List.getElem?_eq_getElem hlt
    generalize xs[i] = x at hxi
    obtain ⟨tc, g1⟩ := hcy.at (i := i) (x := clkX x) (by rw [List.getElem?_map, hxi]; rfl)
    obtain ⟨tw, g2⟩ := hwy.get (i := i) (k := WY x) (by rw [List.getElem?_map, hxi]; rfl)
    have hl := clkX_ok x
    have up : ∀ {q : Addr × Obj}, q ∈ news → q ∈ (I, oI) :: (C, oC) :: (D, LCg.lst ys) :: news := fun hq => .tail _ (.tail _ (.tail _ hq))
    refine spelledElt (s := { s with heap := h, toks := tk }) B F X N (.tail _ (.head _)) T hdp hun hc hx (by omega) (up hc1) (up hc2) d1 d2 (up hcl) (up hwl) g1 g2 (by omega) (by omega) (way_cases x) fun h' tk' t' F' N' => ?_
    refine ⟨h', tk', _, rfl, F', N', off, trivial, spelledRest B X T hdp hun hn hc1 hc2 d1 d2 hcl hwl hcy hwy hFin k (i + 1) _ (by omega) ?_⟩
    rw [List.take_add_one, hxi]
    simp only [Option.toList_some, List.map_append, List.map_cons, List.map_nil]
    exact hv.snoc

end
section

/-! ## told and shown -/
abbrev oScope : Scope := ⟨.function, [(Str.ofString ".0", .local), (Str.ofString "word", .local), (Str.ofString "offset_from_tz_string", .globalImplicit)], false, false, []⟩
def offX (x : Int) : Int := offV (D0 x) (D1 x) (D2 x) (D3 x) (LK x)
section
variable {w : World} {p : Program} {loose : List Str} {mean : ExcName → Option Value} {mg mb : Str → Option Value} {dp un : Nat} {gd : Option (List Code)} {a : Addr} {ccd : Value} {A₀ : Around} {base h₀ : Heap} {L cc cw : Addr} {m : Str → Option Value} {news : Led} {s : Shared}
theorem toldElt {C : Addr} {m₂ : Str → Option Value} {oC : Obj} {Q E : Value → Shared → Prop} {x : Int} {t : Tok} {p1 p2 p3 : Pos}
    (B : Below A₀ base [] h₀) (F : Fr h₀ L s.heap m) (X : (K w.params).In h₀) (N : News h₀ L s.heap news) (hC : (C, oC) ∈ news) (T : Top p loose mean mg mb h₀) (hdp : dp + 10 < recursionLimit) (hun : un + 60 < cLine)
    (hc : LCg.NsObj oC m₂) (hx : m₂ (Str.ofString "word") = some (.str (strL (clkX x)) t))
    (hret : ∀ h' tk' t', Fr h₀ L h' m → News h₀ L h' news → Q (.int (offX x) t') { s with heap := h', toks := tk' }) :
    wpAny (model PySem.Challenge.pw_oc0295_01 w) (lawA dp un gd L a ccd cc cw) (eval (.Call (.Name (Str.ofString "offset_from_tz_string") p1) [.Name (Str.ofString "word") p2] [] p3)
      (compEnvC oScope [] C (lawEnv L a ccd cc cw))) Q E s := by
  have D := draw_of x
  refine Call_ ?_
  refine LCgL.ld_global F X T (v := .ref 57) (by k_is) ?_
  refine callWith_K X (by k_is) ?_
  refine spliced_more ?_
  refine LCgL.ld_own N hC hc hx ?_
  refine spliced_none ?_
  refine ⟨X.keeps F.keep, ?_⟩
  refine (offsetK w _ _ _ _ _ D.f.h0 D.f.h1 D.f.h2 D.f.h3 D.hl t news).use B F X N T rfl (by omega) (by omega) ?_
  intro v' l' h' tk' hR' F' N'
  obtain ⟨⟨t', rfl⟩, rfl⟩ := hR'
  exact hret _ _ _ F' N'
theorem toldRest {S : Led → Prop} {Fin : List Value → Led → Prop} {xs : List Int} {vs : List Value} {p1 p2 p3 : Pos}
    (B : Below A₀ base [] h₀) (X : (K w.params).In h₀) (T : Top p loose mean mg mb h₀) (hdp : dp + 10 < recursionLimit) (hun : un + 60 < cLine) (hw : StrVs (xs.map clkX) vs) (hS : S news)
    (hFin : ∀ ys, IntsAre ys (xs.map offX) → Fin ys news) : ∀ (k i : Nat) (ys : List Value), i + k = xs.length → IntsAre ys ((xs.take i).map offX) →
    LCg.CompRest PySem.Challenge.pw_oc0295_01 w (lawA dp un gd L a ccd cc cw) h₀ L m (lawEnv L a ccd cc cw) (.Call (.Name (Str.ofString "offset_from_tz_string") p1) [.Name (Str.ofString "word") p2] [] p3)
      (Str.ofString "word") oScope [] s S (fun i v => vs.toArray[i]? = some v) Fin k i ys news
  | 0, i, ys, hi, hv => by
    have : i = xs.length := by omega
    subst this
    rw [List.take_length] at hv
    exact LCg.CompRest.zero (hFin ys hv)
  | k + 1, i, ys, hi, hv => by
    refine LCg.CompRest.succ ?_
    rintro v I oI C oC D m₂ h tk E' hP hc hx F N off hne
    obtain ⟨y, t, hy, rfl⟩ := hw.get (i := i) (by simpa using hP)
    have hlt : i < xs.length := by omega
    have hxi : xs[i]? = some xs[i] := List.getElem?_eq_getElem hlt
    generalize xs[i] = x at hxi
    obtain rfl : clkX x = y := by rw [List.getElem?_map, hxi] at hy; exact Option.some.inj hy
    refine toldElt (s := { s with heap := h, toks := tk }) B F X N (.tail _ (.head _)) T hdp hun hc hx fun h' tk' t' F' N' => ?_
    refine ⟨h', tk', _, rfl, F', N', off, hS, toldRest B X T hdp hun hw hS hFin k (i + 1) _ (by omega) ?_⟩
    rw [List.take_add_one, hxi]
    simp only [Option.toList_some, List.map_append, List.map_cons, List.map_nil]
    exact ints_snoc hv
end

end
section

/-! ## shown -/
abbrev zScope : Scope := ⟨.function, [(Str.ofString ".0", .local), (Str.ofString "z", .local), (Str.ofString "_law_figures", .globalImplicit), (Str.ofString "filemode", .globalImplicit)], false, false, []⟩
def figX (x : Int) : Nat → Int := figF (D0 x) (D1 x) (D2 x) (D3 x)
theorem rights_ok (x : Int) : x.fmod 4096 = ((RT x : Nat) : Int) := (fm_nat x (k := 4096) (by decide)).1
/-- _law_figures upon what filemode shows of a draw -/
theorem figuresK (w : World) (t : Tok) (news : Led) (x : Int) :
    Claim w 10 60 840 news [.str (strL (signs (32768 + RT x))) t] (fun v l => ∃ S ta c, v = .ref S ∧ l = (S, four (figX x) ta c) :: news ∧ ∀ q ∈ news, q.1 < S) := by
  have D := draw_of x
  have hs : signs (32768 + RT x) = sgn (D0 x) (D1 x) (D2 x) (D3 x) := (signs_eq (RT_lt x)).1
  rw [hs]
  obtain ⟨a1, a2, a3, a4, f1, f2, f3, f0⟩ := read_back D.f.h0 D.f.h1 D.f.h2 D.f.h3 (x := strL (sgn (D0 x) (D1 x) (D2 x) (D3 x))) rfl
  refine (figuresX w t news _ a1 a2 a3 a4).mono (Nat.le_refl _) (Nat.le_refl _) ?_
  rintro v l ⟨S, t0, t1, t2, t3, c, rfl, rfl, hS⟩
  refine ⟨S, fun i => match i with | 0 => t0 | 1 => t1 | 2 => t2 | _ => t3, c, rfl, ?_, hS⟩
  rw [f0, f1, f2, f3]
  rfl
theorem eqI_is {prog : Program} {w : World} {A : Around} {E : Value → Shared → Prop} {s : Shared} {a b : Int} {t u : Tok} {c : Bool} {Q : Value → Shared → Prop} (e : (a == b) = c) (h : Q (.bool c) s) : wpAny (model prog w) A (compareOp .Eq (.int a t) (.int b u)) Q E s := by
  subst e
  exact PyProof.Rows.eq_int h
theorem neI_is {prog : Program} {w : World} {A : Around} {E : Value → Shared → Prop} {s : Shared} {a b : Int} {t u : Tok} {c : Bool} {Q : Value → Shared → Prop} (e : (a != b) = c) (h : Q (.bool c) s) : wpAny (model prog w) A (compareOp .NotEq (.int a t) (.int b u)) Q E s := by
  subst e
  exact PyProof.Rows.ne_int h
theorem addI_is {prog : Program} {w : World} {A : Around} {E : Value → Shared → Prop} {s : Shared} {a b c : Int} {t u : Tok} {Q : Value → Shared → Prop} (e : a + b = c) (h : Q (.int c s.toks) { s with toks := s.toks + 1 }) : wpAny (model prog w) A (binaryOp .Add (.int a t) (.int b u)) Q E s := by
  subst e
  exact PyProof.Rows.add_int h
section
variable {w : World} {p : Program} {loose : List Str} {mean : ExcName → Option Value} {mg mb : Str → Option Value} {dp un : Nat} {gd : Option (List Code)} {a : Addr} {ccd : Value} {A₀ : Around} {base h₀ : Heap} {L cc cw : Addr} {m : Str → Option Value} {s : Shared} {pos : Pos}
theorem shownElt {C : Addr} {m₂ : Str → Option Value} {oC : Obj} {news : Led} {Q E : Value → Shared → Prop} {x : Int} {t : Tok} {p1 p2 p3 p4 p5 p6 p7 p8 p9 q1 q2 q3 q4 q5 q6 q7 : Pos}
    (B : Below A₀ base [] h₀) (F : Fr h₀ L s.heap m) (X : (K w.params).In h₀) (N : News h₀ L s.heap news) (hC : (C, oC) ∈ news) (T : Top p loose mean mg mb h₀) (hdp : dp + 20 < recursionLimit) (hun : un + 120 < cLine)
    (hc : LCg.NsObj oC m₂) (hx : m₂ (Str.ofString "z") = some (.int x t))
    (hret : ∀ T₁ S ta c h' tk', (∀ q ∈ news, q.1 < S) → (∀ q ∈ news, q.1 < T₁) → Fr h₀ L h' m → News h₀ L h' ((T₁, tupO (LK x == 3) S) :: (S, four (figX x) ta c) :: news) → Q (.ref T₁) { s with heap := h', toks := tk' }) :
    wpAny (model PySem.Challenge.pw_oc0295_01 w) (lawA dp un gd L a ccd cc cw) (eval (.Tuple [.Compare (.BinOp (.BinOp (.Name (Str.ofString "z") p1) .FloorDiv (.Constant (.int 4096) 0 p2) p3) .Mod (.Constant (.int 4) 0 p4) p5) [.Eq] [.Constant (.int 3) 0 p6] p7,
        .Call (.Name (Str.ofString "_law_figures") p8) [.Call (.Name (Str.ofString "filemode") p9) [.BinOp (.Constant (.int 32768) 0 q1) .Add (.BinOp (.Name (Str.ofString "z") q2) .Mod (.Constant (.int 4096) 0 q3) q4) q5] [] q6] [] q7] 0 pos)
      (compEnvC zScope [] C (lawEnv L a ccd cc cw))) Q E s := by
  have D := draw_of x
  have hr := rights_ok x
  have hM := (signs_eq (RT_lt x)).2
  have hb : ((x.fdiv 4096).fmod 4 == 3) = (LK x == 3) := by
    rw [D.l, Bool.eq_iff_iff]
    simp only [beq_iff_eq]
    omega
  have hz : (32768 : Int) + x.fmod 4096 = ((32768 + RT x : Nat) : Int) := by rw [hr]; rfl
  refine Tuple_ ?_
  refine spliced_more ?_
  refine wpAny_Compare1 ?_
  refine wpAny_BinOp ?_
  refine wpAny_BinOp ?_
  refine LCgL.ld_own N hC hc hx ?_
  refine wpAny_Constant_int ?_
  refine floordiv_int (by decide) ?_
  refine wpAny_Constant_int ?_
  refine mod_int' (by decide) ?_
  refine wpAny_Constant_int ?_
  refine eqI_is hb ?_
  refine spliced_more ?_
  refine Call_ ?_
  refine LCgL.ld_global F X T (v := .ref 840) (by k_is) ?_
  refine callWith_K X (by k_is) ?_
  refine spliced_more ?_
  refine Call_ ?_
  refine LCgL.ld_global F X T (v := .ref 819) (by k_is) ?_
  refine callWith_K X (by k_is) ?_
  refine spliced_more ?_
  refine wpAny_BinOp ?_
  refine wpAny_Constant_int ?_
  refine wpAny_BinOp ?_
  refine LCgL.ld_own N hC hc hx ?_
  refine wpAny_Constant_int ?_
  refine mod_int' (by decide) ?_
  refine addI_is hz ?_
  refine spliced_none ?_
  refine ⟨X.keeps F.keep, ?_⟩
  refine (filemodeK w _ _ hM news).use B F X N T rfl (by omega) (by omega) ?_
  rintro v l h' tk' ⟨⟨t', rfl⟩, rfl⟩ F' N'
  refine spliced_none ?_
  refine ⟨X.keeps F'.keep, ?_⟩
  refine (figuresK w _ _ x).use B F' X N' T rfl (by omega) (by omega) ?_
  rintro v l' h'' tk'' ⟨S, ta, c, rfl, rfl, hS⟩ F'' N''
  refine spliced_none ?_
  refine wpAny_newTuple ?_
  exact hret _ S ta c _ _ hS (fun q hq => Heap.lt_size (N'' q (.tail _ hq)).1) (F''.push _) (News.push F'' N'' _)
/-- the list 'ys' tells of each draw whether it bears a minus, and its figures -/
def ShownIn (news : Led) (xs : List Int) (ys : List Value) : Prop := ys.length = xs.length ∧ ∀ (i : Nat) (x : Int), xs[i]? = some x → ∃ (T S : Addr) (ta : Nat → Tok) (c : Nat), ys[i]? = some (Value.ref T) ∧ (T, tupO (LK x == 3) S) ∈ news ∧ (S, four (figX x) ta c) ∈ news
theorem shownRest {ax : Addr} {o : Obj} {c₀ : Nat} {Fin : List Value → Led → Prop} {xs : List Int} {ws : List Value} {news₀ : Led} {p1 p2 p3 p4 p5 p6 p7 p8 p9 q1 q2 q3 q4 q5 q6 q7 : Pos}
    (B : Below A₀ base [] h₀) (X : (K w.params).In h₀) (T : Top p loose mean mg mb h₀) (hdp : dp + 20 < recursionLimit) (hun : un + 120 < cLine) (hI : IntsAre ws xs) (hS : (ax, o) ∈ news₀) (ho : o.cls = .type "list") (hd : o.data = .seq ws.toArray c₀)
    (hFin : ∀ ys news, (∀ q ∈ news₀, q ∈ news) → ShownIn news xs ys → Fin ys news) : ∀ (k i : Nat) (ys : List Value) (news : Led), i + k = xs.length → (∀ q ∈ news₀, q ∈ news) → ShownIn news (xs.take i) ys →
    LCg.CompRest PySem.Challenge.pw_oc0295_01 w (lawA dp un gd L a ccd cc cw) h₀ L m (lawEnv L a ccd cc cw) (.Tuple [.Compare (.BinOp (.BinOp (.Name (Str.ofString "z") p1) .FloorDiv (.Constant (.int 4096) 0 p2) p3) .Mod (.Constant (.int 4) 0 p4) p5) [.Eq] [.Constant (.int 3) 0 p6] p7,
        .Call (.Name (Str.ofString "_law_figures") p8) [.Call (.Name (Str.ofString "filemode") p9) [.BinOp (.Constant (.int 32768) 0 q1) .Add (.BinOp (.Name (Str.ofString "z") q2) .Mod (.Constant (.int 4096) 0 q3) q4) q5] [] q6] [] q7] 0 pos)
      (Str.ofString "z") zScope [] s (LCg.SrcAt h₀ ax ws.toArray) (fun i v => ws.toArray[i]? = some v) Fin k i ys news
  | 0, i, ys, news, hi, hs, hv => by
    have : i = xs.length := by omega
    subst this
    rw [List.take_length] at hv
    exact LCg.CompRest.zero (hFin ys news hs hv)
  | k + 1, i, ys, news, hi, hs, hv => by
    refine LCg.CompRest.succ ?_
    rintro v I oI C oC D m₂ h tk E' hP hc hx F N off hne
    obtain ⟨x, t, hxi, rfl⟩ := ints_get hI (i := i) (by simpa using hP)
    refine shownElt (s := { s with heap := h, toks := tk }) B F X N (.tail _ (.head _)) T hdp hun hc hx fun T₁ S ta c h' tk' h1 h2 F' N' => ?_
    have hI1 : I < S ∧ I < T₁ := ⟨h1 _ (.head _), h2 _ (.head _)⟩
    have hC1 : C < S ∧ C < T₁ := ⟨h1 _ (.tail _ (.head _)), h2 _ (.tail _ (.head _))⟩
    have hD1 : D < S ∧ D < T₁ := ⟨h1 _ (.tail _ (.tail _ (.head _))), h2 _ (.tail _ (.tail _ (.head _)))⟩
    refine ⟨h', tk', (T₁, tupO (LK x == 3) S) :: (S, four (figX x) ta c) :: news, rfl, F', news_sub N' fun q hq => ?_, ⟨⟨Nat.ne_of_gt hI1.2, Nat.ne_of_gt hC1.2, Nat.ne_of_gt hD1.2⟩, ⟨Nat.ne_of_gt hI1.1, Nat.ne_of_gt hC1.1, Nat.ne_of_gt hD1.1⟩, off⟩,
      .inr ⟨o, .tail _ (.tail _ (hs _ hS)), ho, c₀, hd⟩, shownRest B X T hdp hun hI hS ho hd hFin k (i + 1) _ _ (by omega) (fun q hq => .tail _ (.tail _ (hs q hq))) ?_⟩
    · simp only [List.mem_cons] at hq ⊢
      rcases hq with h | h | h | h | h | h <;> simp only [h, true_or, or_true]
    · have hlt : i < xs.length := by omega
      have hl : ys.length = i := by rw [hv.1, List.length_take]; omega
      refine ⟨by rw [List.length_append, hv.1, List.length_take, List.length_take]; simp only [List.length_cons, List.length_nil]; omega, fun j y hj => ?_⟩
      by_cases hji : j = i
      · subst hji
        rw [List.getElem?_take_of_lt (Nat.lt_succ_self _), hxi] at hj
        obtain rfl := Option.some.inj hj
        refine ⟨T₁, S, ta, c, ?_, .head _, .tail _ (.head _)⟩
        rw [← hl, List.getElem?_append_right (Nat.le_refl _), Nat.sub_self]
        rfl
      · have hj' : (xs.take i)[j]? = some y := by
          by_cases hlt' : j < i
          · rw [List.getElem?_take_of_lt hlt']
            rw [List.getElem?_take_of_lt (by omega)] at hj
            exact hj
          · rw [List.getElem?_eq_none (by rw [List.length_take]; omega)] at hj
            cases hj
        obtain ⟨T', S', ta', c', e1, e2, e3⟩ := hv.2 j y hj'
        refine ⟨T', S', ta', c', ?_, .tail _ (.tail _ e2), .tail _ (.tail _ e3)⟩
        rw [List.getElem?_append_left (List.getElem?_eq_some_iff.mp e1).1]
        exact e1
end

end
section

/-! ## the law's last loops -/
theorem topR {p : Program} {loose : List Str} {mean : ExcName → Option Value} {mg mb : Str → Option Value} {h : Heap} (T : Top p loose mean mg mb h) : TopRead p loose mg mb h := topRead_of T
section
variable {w : World} {p : Program} {loose : List Str} {mean : ExcName → Option Value} {mg mb : Str → Option Value} {dp un : Nat} {gd : Option (List Code)} {a : Addr} {ccd : Value} {A₀ : Around} {base h₀ : Heap} {L cc cw : Addr} {m : Str → Option Value} {news : Led} {s : Shared} {E : Value → Shared → Prop}
theorem lenRange {Q : Value → Shared → Prop} {A : Around} {Dr : Addr} {o : Obj} {its : List Value} {c n : Nat} {p1 p2 p3 p4 p5 : Pos} (F : Fr h₀ L s.heap m) (X : (K w.params).In h₀) (N : News h₀ L s.heap news) (T : Top p loose mean mg mb h₀)
    (hD : m (Str.ofString "draws") = some (.ref Dr)) (hm : (Dr, o) ∈ news) (ho : o.cls = .type "list") (hd : o.data = .seq its.toArray c) (hl : its.length = n) (hn : n < 100)
    (h : ∀ r h' tk t u v, IsRange h' r 0 (n : Int) 1 t u v → Fr h₀ L h' m → News h₀ L h' news → Q (.ref r) { s with heap := h', toks := tk }) :
    wpAny (model PySem.Challenge.pw_oc0295_01 w) A (eval (.Call (.Name (Str.ofString "range") p1) [.Call (.Name (Str.ofString "len") p2) [.Name (Str.ofString "draws") p3] [] p4] [] p5) (lawEnv L a ccd cc cw)) Q E s := by
  have TR := topR T
  have e : ((its.toArray.size : Nat) : Int) = (n : Int) := by rw [List.size_toArray, hl]
  refine Call_ ?_
  refine nameX_B F X TR (v := .type "range") (by k_is) (by boot_fast) (by decide) ?_
  refine Pv.callWith_type1 ?_
  refine spliced_more ?_
  refine Call_ ?_
  refine nameX_B F X TR (v := .builtin "len") (by k_is) (by boot_fast) (by decide) ?_
  refine PyProof.Rows.callWith_builtin1 ?_
  refine spliced_more ?_
  refine nameX_L F hD ?_
  refine spliced_none ?_
  refine len_list (items := its.toArray) ⟨o, (N _ hm).1, ho, c, hd⟩ (by rw [e]; omega) ?_
  rw [e]
  refine spliced_none ?_
  refine call_range_1 ?_
  exact h _ _ _ _ _ _ (IsRange.new ..) (F.push _) (N.grown fun _ _ e => Heap.get?_push_of_some _ e)
theorem upRange {Q : Value → Shared → Prop} {A : Around} {n : Nat} {t : Tok} {p1 p2 p3 : Pos} (F : Fr h₀ L s.heap m) (X : (K w.params).In h₀) (N : News h₀ L s.heap news) (T : Top p loose mean mg mb h₀) (hk : m (Str.ofString "k") = some (.int (n : Int) t))
    (h : ∀ r h' tk t u v, IsRange h' r 0 (n : Int) 1 t u v → Fr h₀ L h' m → News h₀ L h' news → Q (.ref r) { s with heap := h', toks := tk }) :
    wpAny (model PySem.Challenge.pw_oc0295_01 w) A (eval (.Call (.Name (Str.ofString "range") p1) [.Name (Str.ofString "k") p2] [] p3) (lawEnv L a ccd cc cw)) Q E s := by
  have TR := topR T
  refine Call_ ?_
  refine nameX_B F X TR (v := .type "range") (by k_is) (by boot_fast) (by decide) ?_
  refine Pv.callWith_type1 ?_
  refine spliced_more ?_
  refine nameX_L F hk ?_
  refine spliced_none ?_
  refine call_range_1 ?_
  exact h _ _ _ _ _ _ (IsRange.new ..) (F.push _) (N.grown fun _ _ e => Heap.get?_push_of_some _ e)
theorem told_due_X (x y : Int) : (cmpI (offX x) (offX y) != dueV (LK x == 3) (figX x) (LK y == 3) (figX y)) = false := by
  have D := draw_of x
  have D' := draw_of y
  have e := told_due D.f.h0 D.f.h1 D.f.h2 D.f.h3 D.hl D'.f.h0 D'.f.h1 D'.f.h2 D'.f.h3 D'.hl
  unfold offX figX
  rw [e]
  simp
theorem innerIf {Q : Flow → Shared → Prop} {xs : List Int} {tys sys : List Value} {To Sh : Addr} {j k : Nat} {tj tk : Tok} {b : List Stmt} {p1 p2 p3 p4 p5 p6 p7 p8 p9 q1 q2 q3 q4 q5 q6 q7 q8 q9 : Pos}
    (B : Below A₀ base [] h₀) (F : Fr h₀ L s.heap m) (X : (K w.params).In h₀) (N : News h₀ L s.heap news) (T : Top p loose mean mg mb h₀) (hdp : dp + 20 < recursionLimit) (hun : un + 200 < cLine)
    (m1 : m (Str.ofString "told") = some (.ref To)) (m2 : m (Str.ofString "shown") = some (.ref Sh)) (m3 : m (Str.ofString "j") = some (.int (j : Int) tj)) (m4 : m (Str.ofString "k") = some (.int (k : Int) tk))
    (hT : (To, LCg.lst tys) ∈ news) (hS : (Sh, LCg.lst sys) ∈ news) (ht : IntsAre tys (xs.map offX)) (hs : ShownIn news xs sys) (hj : j < xs.length) (hk : k < xs.length) (hn : xs.length < 100)
    (h : ∀ h' tk', Fr h₀ L h' m → News h₀ L h' news → Q .next { s with heap := h', toks := tk' }) :
    wpAny (model PySem.Challenge.pw_oc0295_01 w) (lawA dp un gd L a ccd cc cw) (exec (.If (.Compare (.Call (.Name (Str.ofString "_law_compared") p1) [.Subscript (.Name (Str.ofString "told") p2) (.Name (Str.ofString "j") p3) p4, .Subscript (.Name (Str.ofString "told") p5) (.Name (Str.ofString "k") p6) p7] [] p8) [.NotEq]
      [.Call (.Name (Str.ofString "_law_due") p9) [.Subscript (.Name (Str.ofString "shown") q1) (.Name (Str.ofString "j") q2) q3, .Subscript (.Name (Str.ofString "shown") q4) (.Name (Str.ofString "k") q5) q6] [] q7] q8) b [] q9) (lawEnv L a ccd cc cw)) Q E s := by
  have TR := topR T
  have ej : xs[j]? = some xs[j] := List.getElem?_eq_getElem hj
  have ek : xs[k]? = some xs[k] := List.getElem?_eq_getElem hk
  generalize xs[j] = x at ej
  generalize xs[k] = y at ek
  obtain ⟨t1, g1⟩ := ht.get j (offX x) (by rw [List.getElem?_map, ej]; rfl)
  obtain ⟨t2, g2⟩ := ht.get k (offX y) (by rw [List.getElem?_map, ek]; rfl)
  obtain ⟨T1, S1, a1, c1, f1, f2, f3⟩ := hs.2 j x ej
  obtain ⟨T2, S2, a2, c2, f4, f5, f6⟩ := hs.2 k y ek
  refine wpAny_If ?_
  refine wpAny_isTrue_Compare1 ?_
  refine Call_ ?_
  refine nameX_K F X TR (v := .ref 847) (by k_is) ?_
  refine callWith_K X (by k_is) ?_
  refine spliced_more ?_
  refine Subscript_ ?_
  refine nameX_L F m1 ?_
  refine nameX_L F m3 ?_
  refine itemLst N hT g1 rfl (by omega) ?_
  refine spliced_more ?_
  refine Subscript_ ?_
  refine nameX_L F m1 ?_
  refine nameX_L F m4 ?_
  refine itemLst N hT g2 rfl (by omega) ?_
  refine spliced_none ?_
  refine ⟨X.keeps F.keep, ?_⟩
  refine (comparedK w _ _ _ _ news).use B F X N T rfl (by omega) (by omega) ?_
  rintro v l h' tk' ⟨⟨t', rfl⟩, rfl⟩ F' N'
  refine Call_ ?_
  refine nameX_K F' X TR (v := .ref 859) (by k_is) ?_
  refine callWith_K X (by k_is) ?_
  refine spliced_more ?_
  refine Subscript_ ?_
  refine nameX_L F' m2 ?_
  refine nameX_L F' m3 ?_
  refine itemLst N' hS f1 rfl (by omega) ?_
  refine spliced_more ?_
  refine Subscript_ ?_
  refine nameX_L F' m2 ?_
  refine nameX_L F' m4 ?_
  refine itemLst N' hS f4 rfl (by omega) ?_
  refine spliced_none ?_
  refine ⟨X.keeps F'.keep, ?_⟩
  refine (dueK w T1 T2 S1 S2 _ _ _ _ a1 a2 c1 c2 _ f2 f5 f3 f6).use B F' X N' T rfl (by omega) (by omega) ?_
  rintro v l' h'' tk'' ⟨⟨t'', rfl⟩, rfl⟩ F'' N''
  refine neI_is (told_due_X x y) ?_
  refine wpAny_truthy_bool ?_
  refine ite_bF rfl ?_
  exact wpAny_execs_nil (h _ _ F'' N'')
theorem lawLoops {Q : Flow → Shared → Prop} {xs : List Int} {ws tys sys : List Value} {Dr To Sh : Addr} {o : Obj} {c : Nat} {b : List Stmt} {r1 r2 r3 r4 r5 r6 r7 r8 r9 u1 u2 u3 p1 p2 p3 p4 p5 p6 p7 p8 p9 q1 q2 q3 q4 q5 q6 q7 q8 q9 : Pos}
    (B : Below A₀ base [] h₀) (F : Fr h₀ L s.heap m) (X : (K w.params).In h₀) (N : News h₀ L s.heap news) (T : Top p loose mean mg mb h₀) (hdp : dp + 20 < recursionLimit) (hun : un + 200 < cLine)
    (m0 : m (Str.ofString "draws") = some (.ref Dr)) (m1 : m (Str.ofString "told") = some (.ref To)) (m2 : m (Str.ofString "shown") = some (.ref Sh))
    (hm : (Dr, o) ∈ news) (ho : o.cls = .type "list") (hd : o.data = .seq ws.toArray c) (hl : ws.length = xs.length)
    (hT : (To, LCg.lst tys) ∈ news) (hS : (Sh, LCg.lst sys) ∈ news) (ht : IntsAre tys (xs.map offX)) (hs : ShownIn news xs sys) (hn : xs.length < 100)
    (hE : PassesOwn (model PySem.Challenge.pw_oc0295_01 w) (lawA dp un gd L a ccd cc cw) (lawEnv L a ccd cc cw) E)
    (h : ∀ h' tk' m', Fr h₀ L h' m' → News h₀ L h' news → Q .next { s with heap := h', toks := tk' }) :
    wpAny (model PySem.Challenge.pw_oc0295_01 w) (lawA dp un gd L a ccd cc cw) (exec (.For (.Name (Str.ofString "k") r1) (.Call (.Name (Str.ofString "range") r2) [.Call (.Name (Str.ofString "len") r3) [.Name (Str.ofString "draws") r4] [] r5] [] r6)
      [.For (.Name (Str.ofString "j") r7) (.Call (.Name (Str.ofString "range") r8) [.Name (Str.ofString "k") r9] [] u1)
        [.If (.Compare (.Call (.Name (Str.ofString "_law_compared") p1) [.Subscript (.Name (Str.ofString "told") p2) (.Name (Str.ofString "j") p3) p4, .Subscript (.Name (Str.ofString "told") p5) (.Name (Str.ofString "k") p6) p7] [] p8) [.NotEq]
          [.Call (.Name (Str.ofString "_law_due") p9) [.Subscript (.Name (Str.ofString "shown") q1) (.Name (Str.ofString "j") q2) q3, .Subscript (.Name (Str.ofString "shown") q4) (.Name (Str.ofString "k") q5) q6] [] q7] q8) b [] q9] [] u2] [] u3) (lawEnv L a ccd cc cw)) Q E s := by
  have sub1 : ∀ {I : Addr} {o' : Obj} {q : Addr × Obj}, q ∈ news → q ∈ (I, o') :: news := fun hq => .tail _ hq
  have shT : ∀ {nw : Led}, (∀ q ∈ news, q ∈ nw) → ShownIn nw xs sys := fun hq => ⟨hs.1, fun i x e => by
    obtain ⟨T, S, ta, c, e1, e2, e3⟩ := hs.2 i x e
    exact ⟨T, S, ta, c, e1, hq _ e2, hq _ e3⟩⟩
  refine rangeFor (env := lawEnv L a ccd cc cw) (n := xs.length) rfl rfl rfl hn (fun Q' hq => lenRange F X N T m0 hm ho hd hl hn hq)
    (fun i m' => m' (Str.ofString "draws") = some (.ref Dr) ∧ m' (Str.ofString "told") = some (.ref To) ∧ m' (Str.ofString "shown") = some (.ref Sh)) ⟨m0, m1, m2⟩ ?_ (fun h' tk' m' F' N' _ => h h' tk' m' F' N') hE
  rintro k t I o' m' h' tk' hk ⟨a0, a1, a2⟩ F' N'
  refine wpAny_execs_cons ?_
  refine rangeFor (s := { s with heap := h', toks := tk' }) (env := lawEnv L a ccd cc cw) (n := k) rfl rfl rfl (by omega) (fun Q' hq => upRange (s := { s with heap := h', toks := tk' }) (t := t) F' X N' T rfl hq)
    (fun i m' => m' (Str.ofString "draws") = some (.ref Dr) ∧ m' (Str.ofString "told") = some (.ref To) ∧ m' (Str.ofString "shown") = some (.ref Sh) ∧ m' (Str.ofString "k") = some (.int (k : Int) t)) ⟨a0, a1, a2, rfl⟩ ?_ ?_ hE
  · rintro j tj I2 o2 m'' h'' tk'' hj ⟨b0, b1, b2, b3⟩ F'' N''
    refine wpAny_execs_cons ?_
    refine innerIf (s := { s with heap := h'', toks := tk'' }) B F'' X N'' T hdp hun b1 b2 rfl b3 (.tail _ (.tail _ hT)) (.tail _ (.tail _ hS)) ht (shT fun q hq => .tail _ (.tail _ hq)) (by omega) hk hn ?_
    intro h3 tk3 F3 N3
    exact wpAny_execs_nil ⟨h3, tk3, _, rfl, F3, N3, b0, b1, b2, b3⟩
  · rintro h3 tk3 m3 F3 N3 ⟨b0, b1, b2, b3⟩
    exact wpAny_execs_nil ⟨h3, tk3, m3, rfl, F3, N3, b0, b1, b2⟩
end

end
section

/-! ## the law's first statements -/
theorem size300 : 300 ≤ sizeLine := by decide
theorem off1_all {D : Addr} {l : Led} (off : LCg.Off1 D l) : ∀ q ∈ l, q.1 ≠ D := by
  induction l with
  | nil => exact fun q hq => nomatch hq
  | cons e r ih =>
    have off : e.1 ≠ D ∧ LCg.Off1 D r := off
    intro q hq
    rcases List.mem_cons.mp hq with rfl | hq
    · exact off.1
    · exact ih off.2 q hq
section
variable {w : World} {p : Program} {loose : List Str} {mean : ExcName → Option Value} {mg mb : Str → Option Value} {dp un : Nat} {gd : Option (List Code)} {a : Addr} {ccd : Value} {A₀ : Around} {base h₀ : Heap} {L cc cw : Addr} {m : Str → Option Value} {news : Led} {s : Shared} {E : Value → Shared → Prop}
theorem drawsStm {Q : Flow → Shared → Prop} {S : Addr} {ws : List Value} {ns : List Int} {p1 p2 p3 p4 p5 p6 p7 p8 p9 q1 : Pos}
    (F : Fr h₀ L s.heap m) (X : (K w.params).In h₀) (N : News h₀ L s.heap news) (T : Top p loose mean mg mb h₀)
    (hm : m (Str.ofString "script") = some (.ref S)) (hl : h₀.IsList S ws.toArray) (hI : IntsAre ws ns) (hlen : ns.length ≤ 63)
    (h : ∀ D h' tk' vs, (∀ q ∈ news, q.1 < D) → IntsAre vs ([63, 79] ++ ns.take 3) → Fr h₀ L h' (fun y => if y = Str.ofString "draws" then some (.ref D) else m y) → News h₀ L h' ((D, W.listOf vs.toArray 0) :: news) → Q .next { s with heap := h', toks := tk' }) :
    wpAny (model PySem.Challenge.pw_oc0295_01 w) (lawA dp un gd L a ccd cc cw) (exec (.Assign [.Name (Str.ofString "draws") p1] (.BinOp (.List [.Constant (.int 63) 0 p2, .Constant (.int 79) 0 p3] p4) .Add (.Subscript (.Name (Str.ofString "script") p5) (.Slice none (some (.Constant (.int 3) 0 p6)) none p7) p8) p9) q1) (lawEnv L a ccd cc cw)) Q E s := by
  iterate 10 (first | (k_unfold; (try dsimp only)) | walk1 | (dsimp only; walk1) | (leave1; (try dsimp only)))
  rename Fr _ _ _ _ => Fq
  refine nameX_L Fq hm ?_
  repeat' (first | (k_unfold; (try dsimp only)) | walk1 | (dsimp only; walk1) | (leave1; (try dsimp only)))
  rename Fr _ _ _ _ => Fz
  rename News _ _ _ _ => Nz
  rename IntsAre _ _ => hJ
  rename (_ ∧ _ ∧ AllLt _ _) => lD
  exact h _ _ _ _ (allLt_out lD.2.2) hJ Fz (news_drop2 Nz)
/-- a store into a cell of the ledger -/
theorem storeCell {A : Around} {Q : Unit → Shared → Prop} {x : Str} {c : Addr} {o : Obj} {rest : Led} {v : Value} {v₀ : Option Value} (F : Fr h₀ L s.heap m) (N : News h₀ L s.heap ((c, o) :: rest)) (hr : ∀ q ∈ rest, q.1 ≠ c) (hd : o.data = .cell v₀) (hc : [(Str.ofString "ways", cw), (Str.ofString "clocks", cc)].lookup x = some c) (hx : (lawEnv L a ccd cc cw).kindOf x = some .cell)
    (h : ∀ h' o', o'.data = .cell (some v) → Fr h₀ L h' m → News h₀ L h' ((c, o') :: rest) → Q () { s with heap := h' }) :
    wpAny (model PySem.Challenge.pw_oc0295_01 w) A (storeName (lawEnv L a ccd cc cw) x v) Q E s := by
  have hmem := N (c, o) (.head _)
  refine wpAny_storeName_cell rfl hx hc ⟨o, hmem.1, hd⟩ fun h' hv hs => ?_
  obtain ⟨o', ho', hd'⟩ := hv
  exact h h' o' hd' (F.update N (.head _) hs) (News.setHead N hr hs ho')
theorem clocksStm {Q : Flow → Shared → Prop} {Dr : Addr} {o₁ : Obj} {rest : Led} {xs : List Int} {ws : List Value} {p1 p2 p3 p4 p5 p6 p7 p8 p9 q1 q2 q3 q4 q5 q6 : Pos}
    (B : Below A₀ base [] h₀) (F : Fr h₀ L s.heap m) (X : (K w.params).In h₀) (N : News h₀ L s.heap ((cc, o₁) :: rest)) (hr : ∀ q ∈ rest, q.1 ≠ cc) (T : Top p loose mean mg mb h₀) (hdp : dp + 10 < recursionLimit) (hun : un + 60 < cLine)
    (m0 : m (Str.ofString "draws") = some (.ref Dr)) (hm : (Dr, W.listOf ws.toArray 0) ∈ rest) (hI : IntsAre ws xs) (hn : xs.length < 100) (hd : o₁.data = .cell none)
    (h : ∀ Cl h' tk' o' cys, (∀ q ∈ (cc, o₁) :: rest, q.1 ≠ Cl) → o'.data = .cell (some (.ref Cl)) → StrVs (xs.map clkX) cys → Fr h₀ L h' m → News h₀ L h' ((cc, o') :: (Cl, LCg.lst cys) :: rest) → Q .next { s with heap := h', toks := tk' }) :
    wpAny (model PySem.Challenge.pw_oc0295_01 w) (lawA dp un gd L a ccd cc cw) (exec (.Assign [.Name (Str.ofString "clocks") q1] (.ListComp (.Call (.Name (Str.ofString "_law_clock") p1) [.BinOp (.Name (Str.ofString "x") p2) .Mod (.Constant (.int 4096) 0 p3) p4, .BinOp (.BinOp (.Name (Str.ofString "x") p5) .FloorDiv (.Constant (.int 4096) 0 p6) p7) .Mod (.Constant (.int 4) 0 p8) p9] [] q2)
      [⟨.Name (Str.ofString "x") q3, .Name (Str.ofString "draws") q4, [], 0⟩] xScope q5) q6) (lawEnv L a ccd cc cw)) Q E s := by
  have hl : ws.length = xs.length := hI.length
  refine wpAny_Assign_Name ?_
  refine LCg.ListComp_U (cl := []) F (by with_unfolding_all rfl) (by decide) rfl (by decide) rfl ?_
  refine nameX_L F m0 ?_
  refine LCg.CompSrc.ledger rfl F N (.tail _ hm) (by rw [List.size_toArray, hl]; exact Nat.le_trans (by omega) size300) fun g => ?_
  refine clocksRest B X T rfl hdp hun hI (.inr ⟨_, .tail _ hm, rfl, _, rfl⟩) ?_ _ 0 [] (by rw [List.size_toArray, hl]; omega) .nil
  intro cys hcy D h' tk' F' N' off
  have off' : ∀ q ∈ (cc, o₁) :: rest, q.1 ≠ D := off1_all off
  have N2 : News h₀ L h' ((cc, o₁) :: (D, LCg.lst cys) :: rest) := news_sub N' fun q hq => by
    simp only [List.mem_cons] at hq ⊢
    rcases hq with h | h | h <;> simp only [h, true_or, or_true]
  refine storeCell F' N2 (fun q hq => ?_) hd rfl rfl fun h'' o' hd' F'' N'' => ?_
  · rcases List.mem_cons.mp hq with rfl | hq
    · exact Ne.symm (off' _ (.head _))
    · exact hr q hq
  · exact h D h'' tk' o' cys off' hd' hcy F'' N''
theorem waysStm {Q : Flow → Shared → Prop} {Dr : Addr} {o₁ : Obj} {rest : Led} {xs : List Int} {ws : List Value} {p1 p2 p3 p4 p5 q1 q3 q4 q5 q6 : Pos}
    (F : Fr h₀ L s.heap m) (X : (K w.params).In h₀) (N : News h₀ L s.heap ((cw, o₁) :: rest)) (hr : ∀ q ∈ rest, q.1 ≠ cw)
    (m0 : m (Str.ofString "draws") = some (.ref Dr)) (hm : (Dr, W.listOf ws.toArray 0) ∈ rest) (hI : IntsAre ws xs) (hn : xs.length < 100) (hd : o₁.data = .cell none)
    (h : ∀ Cl h' tk' o' cys, o'.data = .cell (some (.ref Cl)) → IntVs (xs.map WY) cys → Fr h₀ L h' m → News h₀ L h' ((cw, o') :: (Cl, LCg.lst cys) :: rest) → Q .next { s with heap := h', toks := tk' }) :
    wpAny (model PySem.Challenge.pw_oc0295_01 w) (lawA dp un gd L a ccd cc cw) (exec (.Assign [.Name (Str.ofString "ways") q1] (.ListComp (.BinOp (.BinOp (.Name (Str.ofString "y") p1) .FloorDiv (.Constant (.int 16384) 0 p2) p3) .Mod (.Constant (.int 4) 0 p4) p5)
      [⟨.Name (Str.ofString "y") q3, .Name (Str.ofString "draws") q4, [], 0⟩] yScope q5) q6) (lawEnv L a ccd cc cw)) Q E s := by
  have hl : ws.length = xs.length := hI.length
  refine wpAny_Assign_Name ?_
  refine LCg.ListComp_U (cl := []) F (by with_unfolding_all rfl) (by decide) rfl (by decide) rfl ?_
  refine nameX_L F m0 ?_
  refine LCg.CompSrc.ledger rfl F N (.tail _ hm) (by rw [List.size_toArray, hl]; exact Nat.le_trans (by omega) size300) fun g => ?_
  refine waysRest X hI (.inr ⟨_, .tail _ hm, rfl, _, rfl⟩) ?_ _ 0 [] (by rw [List.size_toArray, hl]; omega) .nil
  intro cys hcy D h' tk' F' N' off
  have off' := off1_all off
  have N2 : News h₀ L h' ((cw, o₁) :: (D, LCg.lst cys) :: rest) := news_sub N' fun q hq => by
    simp only [List.mem_cons] at hq ⊢
    rcases hq with h | h | h <;> simp only [h, true_or, or_true]
  refine storeCell F' N2 (fun q hq => ?_) hd rfl rfl fun h'' o' hd' F'' N'' => ?_
  · rcases List.mem_cons.mp hq with rfl | hq
    · exact Ne.symm (off' _ (.head _))
    · exact hr q hq
  · exact h D h'' _ o' cys hd' hcy F'' N''
theorem toldStm {Q : Flow → Shared → Prop} {S : Addr} {c : Nat} {xs : List Int} {vs : List Value} {p1 p2 p3 q1 q3 q4 q5 q6 : Pos}
    (B : Below A₀ base [] h₀) (F : Fr h₀ L s.heap m) (X : (K w.params).In h₀) (N : News h₀ L s.heap news) (T : Top p loose mean mg mb h₀) (hdp : dp + 10 < recursionLimit) (hun : un + 60 < cLine)
    (m0 : m (Str.ofString "words") = some (.ref S)) (hm : (S, lstO ⟨vs⟩ c) ∈ news) (hw : StrVs (xs.map clkX) vs) (hn : xs.length < 100)
    (hsw : swapsWith (.ListComp (.Call (.Name (Str.ofString "offset_from_tz_string") p1) [.Name (Str.ofString "word") p2] [] p3)
      [⟨.Name (Str.ofString "word") q3, .Name (Str.ofString "words") q4, [], 0⟩] oScope q5) (some (.Name (Str.ofString "told") q1)) q6.line (lawEnv L a ccd cc cw) = pure true)
    (h : ∀ D h' tk' tys, IntsAre tys (xs.map offX) → Fr h₀ L h' (fun z => if z = Str.ofString "told" then some (.ref D) else m z) → News h₀ L h' ((D, LCg.lst tys) :: news) → Q .next { s with heap := h', toks := tk' }) :
    wpAny (model PySem.Challenge.pw_oc0295_01 w) (lawA dp un gd L a ccd cc cw) (exec (.Assign [.Name (Str.ofString "told") q1] (.ListComp (.Call (.Name (Str.ofString "offset_from_tz_string") p1) [.Name (Str.ofString "word") p2] [] p3)
      [⟨.Name (Str.ofString "word") q3, .Name (Str.ofString "words") q4, [], 0⟩] oScope q5) q6) (lawEnv L a ccd cc cw)) Q E s := by
  have hl : vs.length = xs.length := by rw [hw.len, List.length_map]
  refine LCg.Assign_ListComp_U (cl := []) F rfl hsw (by with_unfolding_all rfl) (by decide) rfl (by decide) rfl rfl rfl ?_
  refine nameX_L F m0 ?_
  refine LCg.CompSrc.ledger (its := vs.toArray) rfl F N hm (by rw [List.size_toArray, hl]; exact Nat.le_trans (by omega) size300) fun g => ?_
  refine toldRest B X T hdp hun hw (.inr ⟨_, hm, rfl, _, rfl⟩) ?_ _ 0 [] (by rw [List.size_toArray, hl]; omega) .nil
  intro tys hty D h' tk' F' N' _
  exact h D h' tk' tys hty F' N'
theorem shownStm {Q : Flow → Shared → Prop} {Dr : Addr} {xs : List Int} {ws : List Value} {p1 p2 p3 p4 p5 p6 p7 p8 p9 q1 q2 q3 q4 q5 q6 q7 r1 r2 r3 r4 r5 r6 : Pos}
    (B : Below A₀ base [] h₀) (F : Fr h₀ L s.heap m) (X : (K w.params).In h₀) (N : News h₀ L s.heap news) (T : Top p loose mean mg mb h₀) (hdp : dp + 20 < recursionLimit) (hun : un + 120 < cLine)
    (m0 : m (Str.ofString "draws") = some (.ref Dr)) (hm : (Dr, W.listOf ws.toArray 0) ∈ news) (hI : IntsAre ws xs) (hn : xs.length < 100)
    (hsw : swapsWith (.ListComp (.Tuple [.Compare (.BinOp (.BinOp (.Name (Str.ofString "z") p1) .FloorDiv (.Constant (.int 4096) 0 p2) p3) .Mod (.Constant (.int 4) 0 p4) p5) [.Eq] [.Constant (.int 3) 0 p6] p7,
        .Call (.Name (Str.ofString "_law_figures") p8) [.Call (.Name (Str.ofString "filemode") p9) [.BinOp (.Constant (.int 32768) 0 q1) .Add (.BinOp (.Name (Str.ofString "z") q2) .Mod (.Constant (.int 4096) 0 q3) q4) q5] [] q6] [] q7] 0 r2)
      [⟨.Name (Str.ofString "z") r3, .Name (Str.ofString "draws") r4, [], 0⟩] zScope r5) (some (.Name (Str.ofString "shown") r1)) r6.line (lawEnv L a ccd cc cw) = pure true)
    (h : ∀ D h' tk' sys news', (∀ q ∈ news, q ∈ news') → ShownIn news' xs sys → Fr h₀ L h' (fun z => if z = Str.ofString "shown" then some (.ref D) else m z) → News h₀ L h' ((D, LCg.lst sys) :: news') → Q .next { s with heap := h', toks := tk' }) :
    wpAny (model PySem.Challenge.pw_oc0295_01 w) (lawA dp un gd L a ccd cc cw) (exec (.Assign [.Name (Str.ofString "shown") r1] (.ListComp (.Tuple [.Compare (.BinOp (.BinOp (.Name (Str.ofString "z") p1) .FloorDiv (.Constant (.int 4096) 0 p2) p3) .Mod (.Constant (.int 4) 0 p4) p5) [.Eq] [.Constant (.int 3) 0 p6] p7,
        .Call (.Name (Str.ofString "_law_figures") p8) [.Call (.Name (Str.ofString "filemode") p9) [.BinOp (.Constant (.int 32768) 0 q1) .Add (.BinOp (.Name (Str.ofString "z") q2) .Mod (.Constant (.int 4096) 0 q3) q4) q5] [] q6] [] q7] 0 r2)
      [⟨.Name (Str.ofString "z") r3, .Name (Str.ofString "draws") r4, [], 0⟩] zScope r5) r6) (lawEnv L a ccd cc cw)) Q E s := by
  have hl : ws.length = xs.length := hI.length
  refine LCg.Assign_ListComp_U (cl := []) F rfl hsw (by with_unfolding_all rfl) (by decide) rfl (by decide) rfl rfl rfl ?_
  refine nameX_L F m0 ?_
  refine LCg.CompSrc.ledger (its := ws.toArray) rfl F N hm (by rw [List.size_toArray, hl]; exact Nat.le_trans (by omega) size300) fun g => ?_
  refine shownRest B X T hdp hun hI hm rfl rfl ?_ _ 0 [] news (by rw [List.size_toArray, hl]; omega) (fun q hq => hq) ⟨rfl, fun i x e => by simp at e⟩
  intro sys news' hsub hsh D h' tk' F' N' _
  exact h D h' tk' sys news' hsub hsh F' N'
end

end
section

/-! ## the line, its words, the test -/
def spX (x : Int) : List Nat := spL (clkX x) (WY x)
theorem spX_len (x : Int) : (spX x).length ≤ 7 := by
  have h := clkX_ok x
  unfold spX
  generalize clkX x = l at h
  generalize WY x = k
  match k with
  | 0 => show l.length ≤ 7; omega
  | 1 => show ([39] ++ l ++ [39]).length ≤ 7; simp; omega
  | 2 => show ([92] ++ l).length ≤ 7; simp; omega
  | n + 3 => show (l.take 2 ++ [34] ++ l.drop 2 ++ [34]).length ≤ 7; simp; omega
theorem joinL_len : ∀ (l : List (List Nat)), (∀ x ∈ l, x.length ≤ 7) → (joinL l).length ≤ 8 * l.length
  | [], _ => by simp [joinL]
  | [a], h => by
    have := h a (.head _)
    show a.length ≤ 8 * 1
    omega
  | a :: b :: r, h => by
    have h1 := h a (.head _)
    have h2 := joinL_len (b :: r) fun y hy => h y (.tail _ hy)
    show (a ++ 32 :: joinL (b :: r)).length ≤ 8 * (b :: r).length.succ
    simp only [List.length_append, List.length_cons] at h2 ⊢
    omega
theorem join_fold7 : ∀ (l : List Str) (a : Nat), (∀ x ∈ l, x.length ≤ 7) → l.foldl (fun a x => a + x.length + 1) a ≤ a + 8 * l.length
  | [], a, _ => by simp
  | x :: r, a, h => by
    have h1 := h x (.head _)
    have h2 := join_fold7 r (a + x.length + 1) fun y hy => h y (.tail _ hy)
    simp only [List.foldl_cons, List.length_cons]
    omega
theorem join_ok7 {ws : List (List Nat)} (hc : ∀ x ∈ ws, x.length ≤ 7) (hn : ws.length < 20) : JoinOk (Str.ofString " ") (ws.map strL) = true := by
  have e : (Str.ofString " ").length = 1 := by decide +kernel
  have h1 := join_fold7 (ws.map strL) 0 fun x hx => by
    obtain ⟨y, hy, rfl⟩ := List.mem_map.mp hx
    rw [strL_len]
    exact hc y hy
  unfold JoinOk
  rw [e]
  rw [List.foldl_toArray]
  simp only [List.length_map] at h1
  unfold Builtin.Str.tooLong
  rw [Bool.not_eq_true', decide_eq_false_iff_not]
  have h3 : 300 ≤ sizeLine := by decide
  omega
theorem line_ok (xs : List Int) (h : xs ≠ []) : LexAll (joinL (xs.map spX)) (xs.map clkX) := by
  have := lexAll_line (xs.map fun x => (clkX x, WY x)) (by simpa using h) fun p hp => by
    obtain ⟨x, _, rfl⟩ := List.mem_map.mp hp
    have := clkX_ok x
    exact ⟨this.1, by show 2 ≤ (clkX x).length; omega⟩
  rw [List.map_map, List.map_map] at this
  exact this
theorem clks_txt (xs : List Int) : ∀ x ∈ xs.map clkX, PyData.strOk (strL x) = true := fun y hy => by
  obtain ⟨x, _, rfl⟩ := List.mem_map.mp hy
  have h := (clkX_ok x).1
  have e : PyData.strOk (strL (clkX x)) = (clkX x).all (· < 0x110000) := by simp [PyData.strOk, strL]
  rw [e, List.all_eq_true]
  intro c hc
  rcases clk_cases (h c hc) with rfl | rfl | rfl | rfl | rfl | rfl | rfl | rfl | rfl | rfl | rfl | rfl | rfl <;> decide
def MethOk (o : Expr) (name : Str) (args : List Expr) (apos pos : Pos) (env : Env) : Prop :=
  ∃ pl : Sem Bool, eval (.Call (.Attribute o name apos) args [] pos) env = (do
    let ov ← eval o env
    standAt apos.atName
    let (f, first) ← holding [ov] (getMethod ov name pl)
    callWith pos f first (backTo pos (starEach args env)) [])
theorem methCall {M : Model} {A : Around} {E : Value → Shared → Prop} {s : Shared} {env : Env} {o : Expr} {name : Str} {apos pos : Pos} {args : List Expr} {Q : Value → Shared → Prop} (hm : MethOk o name args apos pos env)
    (h : ∀ pl, wpAny M A (eval o env) (fun ov s₁ => wpAny M A (getMethod ov name pl) (fun fx s₂ => wpAny M A (callWith pos fx.1 fx.2 (backTo pos (starEach args env)) []) Q E s₂) E s₁) E s) :
    wpAny M A (eval (.Call (.Attribute o name apos) args [] pos) env) Q E s := by
  obtain ⟨pl, he⟩ := hm
  exact MethodCall_ (h pl) he
theorem clks_ok : ∀ (xs : List Int), Clks (xs.map clkX)
  | [] => .nil
  | x :: r => by
    have D := draw_of x
    exact .cons D.f.h0 D.f.h1 D.f.h2 D.f.h3 D.hl (clks_ok r)
def TxtOk (ns : List (List Nat)) : Prop := ∀ x ∈ ns, PyData.strOk (strL x) = true
theorem kt_canLayAll0 : ∀ ns : List (List Nat), TxtOk ns → PyData.canLayAll0 (ns.map fun x => PyData.str (strL x)) = true
  | [], _ => rfl
  | x :: r, h => by
    have h1 := h x (.head _)
    simp [PyData.canLayAll0, PyData.canLay0, kt_canLayAll0 r fun y hy => h y (.tail _ hy), h1]
theorem kt_depthAll : ∀ ns : List (List Nat), PyData.depthAll (ns.map fun x => PyData.str (strL x)) = 0
  | [] => rfl
  | _ :: r => by simp [PyData.depthAll, PyData.depth, kt_depthAll r]
theorem kt_shaped (ns : List (List Nat)) (h : TxtOk ns) : SeqAt.shaped (.list (ns.map fun x => PyData.str (strL x))) = true := by
  simp [SeqAt.shaped, PyData.canLay0, PyData.depth, kt_canLayAll0 ns h, kt_depthAll]
theorem kt_sameAll : ∀ ns : List (List Nat), PySem.Spec.sameAll (ns.map fun x => PyData.str (strL x)) (ns.map fun x => PyData.str (strL x)) = true
  | [] => rfl
  | a :: r => by
    simp only [List.map_cons, PySem.Spec.sameAll, PySem.Spec.same, kt_sameAll r]
    simp
theorem kt_carried : ∀ {ns : List (List Nat)} {vs : List Value}, StrVs ns vs → CarriedAll vs (ns.map fun x => PyData.str (strL x))
  | _, _, .nil => .nil
  | _, _, .cons (t := t) r => .cons (.str _ t) (kt_carried r)
theorem neLists {prog : Program} {w : World} {A : Around} {E : Value → Shared → Prop} {s : Shared} {a b : Addr} {ws : List (List Nat)} {xs ys : List Value} {Q : Value → Shared → Prop} (ha : s.heap.IsList a xs.toArray) (hb : s.heap.IsList b ys.toArray) (hi : StrVs ws xs) (hj : StrVs ws ys) (hok : TxtOk ws) (hu : A.units + 64 < cLine) (h : Q (.bool false) s) :
    wpAny (model prog w) A (compareOp .NotEq (.ref a) (.ref b)) Q E s :=
  ne_dataH_same (reads_newData ha (kt_carried hi)) (reads_newData hb (kt_carried hj)) (kt_shaped _ hok) (kt_shaped _ hok) hu (SeqAt.noMix_of_shape (.list .str) rfl _ _ (list_map_has fun _ => rfl) (list_map_has fun _ => rfl)) (by
    have e : PySem.Spec.same (.list (ws.map fun x => PyData.str (strL x))) (.list (ws.map fun x => PyData.str (strL x))) = true := by simp only [PySem.Spec.same]; exact kt_sameAll ws
    rw [e]; exact h)
theorem joinIs {prog : Program} {w : World} {A : Around} {E : Value → Shared → Prop} {s : Shared} {h₀ : Heap} {L P : Addr} {news : Led} {t : Tok} {o : Obj} {ws : List (List Nat)} {vs : List Value} {c : Nat} {Q : Value → Shared → Prop} (N : News h₀ L s.heap news) (hm : (P, o) ∈ news) (hc : o.cls = .type "list") (hd : o.data = .seq vs.toArray c)
    (hv : StrVs ws vs) (hl : ∀ x ∈ ws, x.length ≤ 7) (hn : ws.length < 20) (h : ∀ t' k, Q (.str (strL (joinL ws)) t') { s with toks := k }) : wpAny (model prog w) A (call (.builtin "str.join") [.str (Str.ofString " ") t, .ref P]) Q E s :=
  joinListK N hm hc hd hv (join_ok7 hl hn) fun t' k => by
    rw [txt_join]
    exact h t' k
theorem neStr {prog : Program} {w : World} {A : Around} {E : Value → Shared → Prop} {s : Shared} {x : Str} {t u : Tok} {Q : Value → Shared → Prop} (h : Q (.bool false) s) : wpAny (model prog w) A (compareOp .NotEq (.str x t) (.str x u)) Q E s := by
  refine PyProof.Rows.ne_str ?_
  have e : (x != x) = false := by simp
  rw [e]
  exact h
section
variable {w : World} {p : Program} {loose : List Str} {mean : ExcName → Option Value} {mg mb : Str → Option Value} {dp un : Nat} {gd : Option (List Code)} {a : Addr} {ccd : Value} {A₀ : Around} {base h₀ : Heap} {L cc cw : Addr} {m : Str → Option Value} {news : Led} {s : Shared} {E : Value → Shared → Prop}
theorem wordsStm {Q : Flow → Shared → Prop} {o1 o2 : Obj} {Cl Wy : Addr} {xs : List Int} {cys wys : List Value} {p1 p2 p3 p4 p5 p6 p7 p8 q1 q2 q3 q4 q5 q6 q7 q8 r1 r2 r3 r4 r5 r6 : Pos}
    (B : Below A₀ base [] h₀) (F : Fr h₀ L s.heap m) (X : (K w.params).In h₀) (N : News h₀ L s.heap news) (T : Top p loose mean mg mb h₀) (hdp : dp + 50 < recursionLimit) (hun : un + 250 < cLine)
    (hn : xs.length < 20) (hx : xs ≠ []) (hc1 : (cc, o1) ∈ news) (hc2 : (cw, o2) ∈ news) (d1 : o1.data = .cell (some (.ref Cl))) (d2 : o2.data = .cell (some (.ref Wy))) (hcl : (Cl, LCg.lst cys) ∈ news) (hwl : (Wy, LCg.lst wys) ∈ news) (hcy : StrVs (xs.map clkX) cys) (hwy : IntVs (xs.map WY) wys)
    (hme : MethOk (.Constant (.str (Str.ofString " ")) 0 q3) (Str.ofString "join") [.ListComp (.Call (.Name (Str.ofString "_law_spelled") p1) [.Subscript (.Name (Str.ofString "clocks") p2) (.Name (Str.ofString "i") p3) p4, .Subscript (.Name (Str.ofString "ways") p5) (.Name (Str.ofString "i") p6) p7] [] p8)
        [⟨.Name (Str.ofString "i") q5, .Call (.Name (Str.ofString "range") r1) [.Call (.Name (Str.ofString "len") r2) [.Name (Str.ofString "clocks") r3] [] r4] [] r5, [], 0⟩] iScope q6] q4 q7 (lawEnv L a ccd cc cw))
    (h : ∀ S vs c' h' tk' news', (∀ q ∈ news, q ∈ news') → (S, lstO ⟨vs⟩ c') ∈ news' → StrVs (xs.map clkX) vs → Fr h₀ L h' (fun z => if z = Str.ofString "words" then some (.ref S) else m z) → News h₀ L h' news' → Q .next { s with heap := h', toks := tk' }) :
    wpAny (model PySem.Challenge.pw_oc0295_01 w) (lawA dp un gd L a ccd cc cw) (exec (.Assign [.Name (Str.ofString "words") q1] (.Call (.Name (Str.ofString "split") q2) [.Call (.Attribute (.Constant (.str (Str.ofString " ")) 0 q3) (Str.ofString "join") q4)
      [.ListComp (.Call (.Name (Str.ofString "_law_spelled") p1) [.Subscript (.Name (Str.ofString "clocks") p2) (.Name (Str.ofString "i") p3) p4, .Subscript (.Name (Str.ofString "ways") p5) (.Name (Str.ofString "i") p6) p7] [] p8)
        [⟨.Name (Str.ofString "i") q5, .Call (.Name (Str.ofString "range") r1) [.Call (.Name (Str.ofString "len") r2) [.Name (Str.ofString "clocks") r3] [] r4] [] r5, [], 0⟩] iScope q6] [] q7] [] q8) r6) (lawEnv L a ccd cc cw)) Q E s := by
  have TR := topR T
  have hl : cys.length = xs.length := by rw [hcy.len, List.length_map]
  have e : ((cys.toArray.size : Nat) : Int) = ((xs.length : Nat) : Int) := by rw [List.size_toArray, hl]
  have hsp : ∀ y ∈ xs.map spX, y.length ≤ 7 := fun y hy => by
    obtain ⟨x, _, rfl⟩ := List.mem_map.mp hy
    exact spX_len x
  refine wpAny_Assign_Name ?_
  refine Call_ ?_
  refine nameX_K F X TR (v := .ref 757) (by k_is) ?_
  refine callWith_K X (by k_is) ?_
  refine spliced_more ?_
  refine methCall hme fun pl => ?_
  refine wpAny_Constant_str ?_
  refine GM.join ?_
  refine callWith_method1 ?_
  refine spliced_more ?_
  refine LCg.ListComp_U (cl := cellsCW cc cw) F (by with_unfolding_all rfl) (by decide) rfl (by decide) rfl ?_
  refine Call_ ?_
  refine nameX_B F X TR (v := .type "range") (by k_is) (by boot_fast) (by decide) ?_
  refine Pv.callWith_type1 ?_
  refine spliced_more ?_
  refine Call_ ?_
  refine nameX_B F X TR (v := .builtin "len") (by k_is) (by boot_fast) (by decide) ?_
  refine PyProof.Rows.callWith_builtin1 ?_
  refine spliced_more ?_
  refine nameX_C N rfl hc1 d1 ?_
  refine spliced_none ?_
  refine len_list (items := cys.toArray) ⟨_, (N _ hcl).1, rfl, _, rfl⟩ (by rw [e]; omega) ?_
  rw [e]
  refine spliced_none ?_
  refine call_range_1 ?_
  refine LCg.CompSrc.range (n := xs.length) (a := 0) (b := ((xs.length : Nat) : Int)) rfl (F.push _) (N.grown fun _ _ e => Heap.get?_push_of_some _ e) (IsRange.new ..) (small_one (by omega) (by omega) (by omega) (by omega)) (by rw [rangeSize_one]; split <;> omega) (Nat.le_trans (by omega) size300) fun g => ?_
  refine spelledRest B X T (by omega) (by omega) (by omega) hc1 hc2 d1 d2 hcl hwl hcy hwy ?_ _ 0 [] (by omega) .nil
  intro ys hys D h' tk' F' N' _
  refine spliced_none ?_
  refine joinIs N' (.head _) rfl rfl hys hsp (by rw [List.length_map]; exact hn) fun t' k' => ?_
  refine spliced_none ?_
  refine ⟨X.keeps F'.keep, ?_⟩
  refine splitK w (strL (joinL (xs.map spX))) t' _ (xs.map clkX) (by have := joinL_len _ hsp; rw [List.length_map] at this; rw [strL_len]; omega) (by rw [strL_cps]; exact line_ok xs hx) (by rw [List.length_map]; omega) B F' X N' T rfl (by omega) (by omega) ?_
  intro S vs c' h'' tk'' hvs F'' N''
  refine storeX_L F'' N'' fun h3 F3 N3 => ?_
  exact h S vs c' h3 _ _ (fun q hq => .tail _ (.tail _ hq)) (.head _) hvs F3 N3
end

end
section

/-! ## words != clocks or join_shlex(words) != ' '.join(clocks) -/
section
variable {w : World} {p : Program} {loose : List Str} {mean : ExcName → Option Value} {mg mb : Str → Option Value} {dp un : Nat} {gd : Option (List Code)} {a : Addr} {ccd : Value} {h₀ : Heap} {L cc cw : Addr} {m : Str → Option Value} {news : Led} {s : Shared} {E : Value → Shared → Prop}
theorem clk_short (xs : List Int) : ∀ y ∈ xs.map clkX, y.length ≤ 7 := fun y hy => by
  obtain ⟨x, _, rfl⟩ := List.mem_map.mp hy
  have := clkX_ok x
  omega
theorem testStm {Q : Flow → Shared → Prop} {o1 : Obj} {Cl S : Addr} {c : Nat} {xs : List Int} {cys vs : List Value} {b : List Stmt} {p1 p2 p3 p4 p5 p6 p7 p8 p9 q1 q2 q3 q4 : Pos}
    (F : Fr h₀ L s.heap m) (X : (K w.params).In h₀) (t759 : h₀.get? 759 = some tabJ) (N : News h₀ L s.heap news) (T : Top p loose mean mg mb h₀) (G : AllBare s.gens) (hdp : dp + 50 < recursionLimit) (hun : un + 250 < cLine)
    (hn : xs.length < 20) (mw : m (Str.ofString "words") = some (.ref S)) (hc1 : (cc, o1) ∈ news) (d1 : o1.data = .cell (some (.ref Cl))) (hcl : (Cl, LCg.lst cys) ∈ news) (hcy : StrVs (xs.map clkX) cys) (hS : (S, lstO ⟨vs⟩ c) ∈ news) (hvs : StrVs (xs.map clkX) vs)
    (hme : MethOk (.Constant (.str (Str.ofString " ")) 0 p6) (Str.ofString "join") [.Name (Str.ofString "clocks") p8] p7 p9 (lawEnv L a ccd cc cw))
    (h : ∀ ps' s', Fr (regrown h₀ 759 ps') L s'.heap m → News (regrown h₀ 759 ps') L s'.heap news → (K w.params).In (regrown h₀ 759 ps') → Top pE (looseE p loose) mean mg mb (regrown h₀ 759 ps') → OldK h₀ (regrown h₀ 759 ps') → AllBare s'.gens → s'.os = s.os → Q .next s') :
    wpAny (model PySem.Challenge.pw_oc0295_01 w) (lawA dp un gd L a ccd cc cw) (exec (.If (.BoolOp .Or [.Compare (.Name (Str.ofString "words") p1) [.NotEq] [.Name (Str.ofString "clocks") p2] p3,
      .Compare (.Call (.Name (Str.ofString "join_shlex") p4) [.Name (Str.ofString "words") p5] [] q1) [.NotEq] [.Call (.Attribute (.Constant (.str (Str.ofString " ")) 0 p6) (Str.ofString "join") p7) [.Name (Str.ofString "clocks") p8] [] p9] q2] q3) b [] q4) (lawEnv L a ccd cc cw)) Q E s := by
  have TR := topR T
  have hl : (xs.map clkX).length < 20 := by rw [List.length_map]; exact hn
  refine wpAny_If ?_
  refine isTrue_or ?_
  refine wpAny_isTrue_Compare1 ?_
  refine nameX_L F mw ?_
  refine nameX_C N rfl hc1 d1 ?_
  refine neLists ⟨_, (N _ hS).1, rfl, _, rfl⟩ ⟨_, (N _ hcl).1, rfl, _, rfl⟩ hvs hcy (clks_txt xs) (by show un + 64 < cLine; omega) ?_
  refine wpAny_truthy_bool ?_
  refine ite_bF rfl ?_
  refine isTrue_or ?_
  refine wpAny_isTrue_Compare1 ?_
  refine Call_ ?_
  refine nameX_K F X TR (v := .ref 764) (by k_is) ?_
  refine callWith_K X (by k_is) ?_
  refine spliced_more ?_
  refine nameX_L F mw ?_
  refine spliced_none ?_
  refine ⟨X.keeps F.keep, ?_⟩
  refine joinK (clks_ok xs) hvs (by omega) F X t759 N hS T G rfl (by show dp + 12 < recursionLimit; omega) (by show un + 100 < cLine; omega) ?_
  intro ps' s' t' F' N' X' T' O' G' ho'
  refine methCall hme fun pl => ?_
  refine wpAny_Constant_str ?_
  refine GM.join ?_
  refine callWith_method1 ?_
  refine spliced_more ?_
  refine nameX_C N' rfl hc1 d1 ?_
  refine spliced_none ?_
  refine joinIs N' hcl rfl rfl hcy (clk_short xs) hl fun t'' k => ?_
  refine neStr ?_
  refine wpAny_truthy_bool ?_
  refine ite_bF rfl ?_
  refine isTrue_or_nil ?_
  refine ite_bF rfl ?_
  exact wpAny_execs_nil (h ps' _ F' N' X' T' O' G' ho')
end

end
section

/-! ## the law's body -/
section
variable {w : World} {p : Program} {loose : List Str} {mean : ExcName → Option Value} {mg mb : Str → Option Value} {dp un : Nat} {gd : Option (List Code)} {a : Addr} {ccd : Value} {h₀ : Heap} {L cc cw : Addr} {m : Str → Option Value} {news : Led} {s : Shared} {E : Value → Shared → Prop}
theorem lawBody {Q : Flow → Shared → Prop} {S : Addr} {ws : List Value} {ns : List Int} {o1 o2 : Obj}
    (F : Fr h₀ L s.heap m) (X : (K w.params).In h₀) (t759 : h₀.get? 759 = some tabJ) (N : News h₀ L s.heap [(cw, o2), (cc, o1)]) (hne : cw ≠ cc) (T : Top p loose mean mg mb h₀) (G : AllBare s.gens)
    (hdp : dp + 60 < recursionLimit) (hun : un + 300 < cLine) (hm : m (Str.ofString "script") = some (.ref S)) (hl : h₀.IsList S ws.toArray) (hI : IntsAre ws ns) (hlen : ns.length ≤ 63)
    (hd1 : o1.data = .cell none) (hd2 : o2.data = .cell none) (hE : PassesOwn (model PySem.Challenge.pw_oc0295_01 w) (lawA dp un gd L a ccd cc cw) (lawEnv L a ccd cc cw) E)
    (h : ∀ s', OldK h₀ s'.heap → AllBare s'.gens → s'.os = s.os → Q (.ret (.bool true)) s') :
    wpAny (model PySem.Challenge.pw_oc0295_01 w) (lawA dp un gd L a ccd cc cw) (execs cap864.1.body (lawEnv L a ccd cc cw)) Q E s := by
  have hxl : ([63, 79] ++ ns.take 3 : List Int).length < 20 := by simp; omega
  have hx0 : ([63, 79] ++ ns.take 3 : List Int) ≠ [] := by simp
  refine wpAny_execs_cons (drawsStm F X N T hm hl hI hlen ?_)
  intro D h1 tk1 vs hlt hJ F1 N1
  have hD2 : cw < D := hlt _ (.head _)
  have hD1 : cc < D := hlt _ (.tail _ (.head _))
  generalize ([63, 79] ++ ns.take 3 : List Int) = xs at hJ hxl hx0
  have N1' : News h₀ L h1 ((cc, o1) :: [(D, W.listOf vs.toArray 0), (cw, o2)]) := news_sub N1 fun q hq => by
    simp only [List.mem_cons, List.not_mem_nil, or_false] at hq ⊢
    rcases hq with h | h | h <;> simp only [h, true_or, or_true]
  refine wpAny_execs_cons (clocksStm (s := { s with heap := h1, toks := tk1 }) (below_caller _) F1 X N1' ?_ T (by omega) (by omega) rfl (.head _) hJ (by omega) hd1 ?_)
  · intro q hq
    simp only [List.mem_cons, List.not_mem_nil, or_false] at hq
    rcases hq with rfl | rfl
    · exact Nat.ne_of_gt hD1
    · exact hne
  intro Cl h2 tk2 o1' cys hCl hd1' hcy F2 N2
  have N2' : News h₀ L h2 ((cw, o2) :: [(Cl, LCg.lst cys), (D, W.listOf vs.toArray 0), (cc, o1')]) := news_sub N2 fun q hq => by
    simp only [List.mem_cons, List.not_mem_nil, or_false] at hq ⊢
    rcases hq with h | h | h | h <;> simp only [h, true_or, or_true]
  refine wpAny_execs_cons (waysStm (s := { s with heap := h2, toks := tk2 }) F2 X N2' ?_ rfl (.tail _ (.head _)) hJ (by omega) hd2 ?_)
  · intro q hq
    simp only [List.mem_cons, List.not_mem_nil, or_false] at hq
    rcases hq with rfl | rfl | rfl
    · exact Ne.symm (hCl _ (.tail _ (.tail _ (.head _))))
    · exact Nat.ne_of_gt hD2
    · exact Ne.symm hne
  intro Wy h3 tk3 o2' wys hd2' hwy F3 N3
  refine wpAny_execs_cons (wordsStm (s := { s with heap := h3, toks := tk3 }) (below_caller _) F3 X N3 T (by omega) (by omega) hxl hx0 (.tail _ (.tail _ (.tail _ (.tail _ (.head _))))) (.head _) hd1' hd2' (.tail _ (.tail _ (.head _))) (.tail _ (.head _)) hcy hwy ⟨_, rfl⟩ ?_)
  intro S' vs' c' h4 tk4 news4 hsub hS hvs F4 N4
  have hCc := hsub _ (.tail _ (.tail _ (.tail _ (.tail _ (.head _)))))
  have hCl4 := hsub _ (.tail _ (.tail _ (.head _)))
  have hD4 := hsub _ (.tail _ (.tail _ (.tail _ (.head _))))
  refine wpAny_execs_cons (testStm (s := { s with heap := h4, toks := tk4 }) F4 X t759 N4 T G (by omega) (by omega) hxl rfl hCc hd1' hCl4 hcy hS hvs ⟨_, rfl⟩ ?_)
  intro ps' s5 F5 N5 X5 T5 O5 G5 ho5
  refine wpAny_execs_cons (toldStm (below_caller _) F5 X5 N5 T5 (by omega) (by omega) rfl hS hvs (by omega) (by with_unfolding_all rfl) ?_)
  intro To h6 tk6 tys hty F6 N6
  refine wpAny_execs_cons (shownStm (s := { s5 with heap := h6, toks := tk6 }) (below_caller _) F6 X5 N6 T5 (by omega) (by omega) rfl (.tail _ hD4) hJ (by omega) (by with_unfolding_all rfl) ?_)
  intro Sh h7 tk7 sys news7 hsub7 hsh F7 N7
  refine wpAny_execs_cons (lawLoops (s := { s5 with heap := h7, toks := tk7 }) (below_caller _) F7 X5 N7 T5 (by omega) (by omega) rfl rfl rfl (.tail _ (hsub7 _ (.tail _ hD4))) rfl rfl hJ.length (.tail _ (hsub7 _ (.head _))) (.head _) hty ⟨hsh.1, fun i x e => ?_⟩ (by omega) hE ?_)
  · obtain ⟨T, S, ta, c, e1, e2, e3⟩ := hsh.2 i x e
    exact ⟨T, S, ta, c, e1, .tail _ e2, .tail _ e3⟩
  intro h8 tk8 m8 F8 N8
  refine wpAny_execs_cons (wpAny_Return_some (wpAny_Constant_bool ?_))
  exact h _ (O5.step_keeps F8.keep) G5 ho5
end

end
section

/-! ## the law -/
theorem closeW {cl : Str → Option Addr} {mean : ExcName → Option Value} {ns : List Int} {s₁ s' : Shared} (O : OldK s₁.heap s'.heap) (G : AllBare s'.gens) (ho : s'.os = s₁.os) :
    GoodWG PySem.Challenge.rw_oc0295_01.row.claim cl mean [ofPy (PyData.list (ns.map PyData.int))] s₁ (.ok (.ret (.bool true))) s' :=
  ⟨.inl ⟨.bool true, ofPy (.bool true), [], rfl, raisesW_false (by wrow_none_raised), readsW_of_reads (Reads.bool true), postW_of (by wrow_shape) (by wtm_val) (by w_fin), unshared_nil⟩, O, ho, G⟩
theorem holds : PySem.Challenge.rw_oc0295_01.Holds := by
  w_on
  refine holds_law said fun said => ?_
  refine holds_open (q := Mine.q0) (loose := Mine.loose0) (Xt := Mine.Xt0) (XP := XL Mine.q0 []) (Yf := Hook.obs Mine.H0) (Ya := Hook.val Mine.H0) (YP := Hook.says Mine.H0) (N := 12000) Mine.left (Hook.of Mine.H0) (Hook.keeps Mine.H0)
    (fun s e => xl_of s (Bool.and_eq_true_iff.mp e).1) XL.keeps (by rfl) (by rfl) (by rfl) (fun s e => recFacts_of (Bool.and_eq_true_iff.mp e).2) (by rfl) (by first | assumption | decide +kernel) (by decide +kernel) ⟨rfl, rfl, rfl, rfl, rfl, by decide +kernel⟩ ?hw ?hc
  case hw => w_witness2
  w_strict (lge_go0)
  all_goals try k_fold
  rename Fr _ _ _ _ => F0
  rename News _ _ _ _ => N0
  rename Frag.In _ _ => KX
  rename Top _ _ _ _ _ _ => T0
  rename IntsAre _ _ => hI
  rename Heap.IsList _ _ _ => hL
  rename (_ = Data.cell _) => hc1
  revert hc1
  rename (_ = Data.cell _) => hc2
  intro hc1
  rename (_ = #[]) => hg
  rename (¬ _ < _) => hlen
  refine' lawBody (dp := callerA.depth + 1) (un := callerA.units + 3) F0 (K2_in KX).1 (K2_in KX).2 N0 ?ne T0 ?G ?hdp ?hun ?hm hL hI ?hlen ?hd1 ?hd2 ?hE ?h
  case ne => exact Nat.succ_ne_self _
  case G => exact AllBare.of_eq hg
  case hdp => decide
  case hun => decide
  case hm => rfl
  case hlen => omega
  case hd1 => exact hc1.trans rfl
  case hd2 => exact hc2.trans rfl
  case hE => passes_own
  case h =>
    intro s' O G' ho
    exact closeW O G' ho

end
end Mine
set_option maxHeartbeats 8000000 in
theorem PySem.Challenge.cw_oc0295_01_holds : PySem.Challenge.rw_oc0295_01.Holds := by
  exact Mine.holds
