import PyProof.Rows.All
import Wide.All
import OpenK.AllK
import Wide.FinOn
import PySem.Challenge.RW_bg0027_01
open PySem PySem.W PyProof.Rows
set_option Elab.async false
namespace Mine
def stemA : Str := Str.ofString "a"
def stemB : Str := stemA
theorem stem_eq : stemB = stemA := rfl
end Mine
name_quick tw7493969970572407054 for Mine.stemA by Mine.stem_eq
name_quick tw17737313335191506730 for Mine.stemA by Mine.stem_eq
name_quick tw12299743096253456131 for Mine.stemA by Mine.stem_eq
name_quick tw18196207841496290354 for Mine.stemA by Mine.stem_eq
name_quick tw6462780390474129891 for Mine.stemA by Mine.stem_eq
name_quick tw14904575003551449570 for Mine.stemA by Mine.stem_eq
name_quick tw6560391330601424778 for Mine.stemA by Mine.stem_eq
name_quick tw17956921605132752514 for Mine.stemA by Mine.stem_eq
name_quick tw13191295725559111208 for Mine.stemA by Mine.stem_eq
name_quick tw15897114876488960315 for Mine.stemA by Mine.stem_eq
name_quick tw10718892041063643863 for Mine.stemA by Mine.stem_eq
name_quick tw17084349421809046987 for Mine.stemA by Mine.stem_eq
name_quick tw16001769995649200562 for Mine.stemA by Mine.stem_eq
name_quick tw14980807874102419987 for Mine.stemA by Mine.stem_eq
name_quick tw6997063189498814883 for Mine.stemA by Mine.stem_eq
name_quick tw11919808890635916231 for Mine.stemA by Mine.stem_eq
name_quick tw1901524609196724863 for Mine.stemA by Mine.stem_eq
name_quick tw7390190819305372320 for Mine.stemA by Mine.stem_eq
name_quick tw1306790839584632651 for Mine.stemA by Mine.stem_eq
name_quick tw13853914620628138092 for Mine.stemA by Mine.stem_eq
name_quick tw4315662267728683967 for Mine.stemA by Mine.stem_eq
name_quick tw1641718772566732887 for Mine.stemA by Mine.stem_eq
name_quick tw3816822339857682293 for Mine.stemA by Mine.stem_eq
name_quick tw10531339152953068687 for Mine.stemA by Mine.stem_eq
name_quick tw15855606640267800709 for Mine.stemA by Mine.stem_eq
name_quick tw2245006971878993143 for Mine.stemA by Mine.stem_eq
name_quick tw4240892006823826443 for Mine.stemA by Mine.stem_eq
name_quick tw16707128869341181310 for Mine.stemA by Mine.stem_eq
name_quick tw14535685388179086665 for Mine.stemA by Mine.stem_eq
name_quick tw13377829441393573618 for Mine.stemA by Mine.stem_eq
name_quick tw4651863443983870558 for Mine.stemA by Mine.stem_eq
name_quick tw9258627568617070492 for Mine.stemA by Mine.stem_eq
name_quick tw3773667646097252029 for Mine.stemA by Mine.stem_eq
name_quick tw16115968888881914857 for Mine.stemA by Mine.stem_eq
name_quick tw16145670143442454269 for Mine.stemA by Mine.stem_eq
name_quick tw17990997957879882593 for Mine.stemA by Mine.stem_eq
name_quick tw12194535186510425874 for Mine.stemA by Mine.stem_eq
name_quick tw4113715883642890645 for Mine.stemA by Mine.stem_eq
name_quick tw5712933451265338834 for Mine.stemA by Mine.stem_eq
name_quick tw8359286648393180516 for Mine.stemA by Mine.stem_eq
name_quick tw15819749518909973058 for Mine.stemA by Mine.stem_eq
name_quick tw8274347224045219448 for Mine.stemA by Mine.stem_eq
name_quick tw11567404395114809751 for Mine.stemA by Mine.stem_eq
name_quick tw14842981644102349429 for Mine.stemA by Mine.stem_eq
name_quick tw6569190444394810856 for Mine.stemA by Mine.stem_eq
name_quick tw2790828390936455455 for Mine.stemA by Mine.stem_eq
name_quick tw2054242307929601242 for Mine.stemA by Mine.stem_eq
name_quick tw15601113415458257849 for Mine.stemA by Mine.stem_eq
name_quick tw8519983449421872349 for Mine.stemA by Mine.stem_eq
name_quick tw8949454677394906501 for Mine.stemA by Mine.stem_eq
name_quick tw5474118786676095383 for Mine.stemA by Mine.stem_eq
name_quick tw14473539162793888280 for Mine.stemA by Mine.stem_eq
name_quick tw8949753489320171837 for Mine.stemA by Mine.stem_eq
name_quick tw10318207223672480430 for Mine.stemA by Mine.stem_eq
name_quick tw16510406782170844458 for Mine.stemA by Mine.stem_eq
name_quick tw9025168862422570537 for Mine.stemA by Mine.stem_eq
set_option maxRecDepth 100000 in
set_option maxHeartbeats 8000000 in
open_top Mine.hd for PySem.Challenge.rw_bg0027_01
set_option linter.all false
set_option maxRecDepth 100000
open PySem PySem.W PySem.Calls PyProof.Rows PyProof.V
open PyProof.Rows.TI (Frs SameUp)
namespace Mine
theorem fill_all : hd.heap_39 = hd.heap_39 ∧ PySem.Challenge.rw_bg0027_01 = PySem.Challenge.rw_bg0027_01 := by
  k_fill
  exact ⟨rfl, rfl⟩
theorem kfs0 (P : Params) : (noGet (hd.heap_39 P) none = true) ∧
    (noGet (hd.heap_39 P) (some Value.none) = true) ∧
    (nsIn (hd.heap_39 P) mainGlobals (Str.ofString "len") = some none) ∧
    (nsIn (hd.heap_39 P) mainGlobals (Str.ofString "iter") = some none) ∧
    (nsIn (hd.heap_39 P) mainGlobals (Str.ofString "one") = some none) ∧
    (nsIn (hd.heap_39 P) mainGlobals (Str.ofString "range") = some none) ∧
    (nsIn (hd.heap_39 P) mainGlobals (Str.ofString "Cache") = some (some (Value.ref 830))) ∧
    (nsIn (hd.heap_39 P) mainGlobals (Str.ofString "sorted") = some none) ∧
    (nsIn (hd.heap_39 P) mainGlobals (Str.ofString "_law_use") = some (some (Value.ref 1053))) ∧
    (nsIn (hd.heap_39 P) mainGlobals (Str.ofString "next") = some none) ∧
    (nsIn (hd.heap_39 P) mainGlobals (Str.ofString "LFUCache") = some (some (Value.ref 979))) ∧
    (nsIn (hd.heap_39 P) mainGlobals (Str.ofString "LRUCache") = some (some (Value.ref 1044))) ∧
    (nsIn (hd.heap_39 P) mainGlobals (Str.ofString "FIFOCache") = some (some (Value.ref 882))) ∧
    (nsIn (hd.heap_39 P) mainGlobals (Str.ofString "enumerate") = some none) ∧
    (nsIn (hd.heap_39 P) mainGlobals (Str.ofString "KeyError") = some none) ∧
    (specialIn (hd.heap_39 P) Value.none (Str.ofString "__get__") = some none) ∧
    (codeIn (hd.heap_39 P) (Value.ref 1003) (Str.ofString "LRUCache.__getitem__") = true) ∧
    (fnIn (hd.heap_39 P) 1004 = true) ∧
    (isFn (hd.heap_39 P) (Value.ref 1004) = true) ∧
    (makesIn (hd.heap_39 P) 1004 = false) ∧
    (codeIn (hd.heap_39 P) (Value.ref 1011) (Str.ofString "LRUCache.__setitem__") = true) ∧
    (isFn (hd.heap_39 P) (Value.ref 1012) = true) ∧
    (makesIn (hd.heap_39 P) 1012 = false) ∧
    (codeIn (hd.heap_39 P) (Value.ref 1019) (Str.ofString "LRUCache.__delitem__") = true) ∧
    (isFn (hd.heap_39 P) (Value.ref 1020) = true) ∧
    (makesIn (hd.heap_39 P) 1020 = false) ∧
    (codeIn (hd.heap_39 P) (Value.ref 1026) (Str.ofString "LRUCache.popitem") = true) ∧
    (isFn (hd.heap_39 P) (Value.ref 1027) = true) ∧
    (makesIn (hd.heap_39 P) 1027 = false) ∧
    (codeIn (hd.heap_39 P) (Value.ref 1040) (Str.ofString "LRUCache.__touch") = true) := ⟨by k_is, by k_is, by k_is, by k_is, by k_is, by k_is, by k_is, by k_is, by k_is, by k_is, by k_is, by k_is, by k_is, by k_is, by k_is, by k_is, by k_is, by k_is, by k_is, by k_is, by k_is, by k_is, by k_is, by k_is, by k_is, by k_is, by k_is, by k_is, by k_is, by k_is⟩
theorem kf144 (P : Params) : noGet (hd.heap_39 P) none = true := (kfs0 P).1
theorem kf145 (P : Params) : noGet (hd.heap_39 P) (some Value.none) = true := (kfs0 P).2.1
theorem kf150 (P : Params) : nsIn (hd.heap_39 P) mainGlobals (Str.ofString "len") = some none := (kfs0 P).2.2.1
theorem kf151 (P : Params) : nsIn (hd.heap_39 P) mainGlobals (Str.ofString "iter") = some none := (kfs0 P).2.2.2.1
theorem kf152 (P : Params) : nsIn (hd.heap_39 P) mainGlobals (Str.ofString "one") = some none := (kfs0 P).2.2.2.2.1
theorem kf153 (P : Params) : nsIn (hd.heap_39 P) mainGlobals (Str.ofString "range") = some none := (kfs0 P).2.2.2.2.2.1
theorem kf154 (P : Params) : nsIn (hd.heap_39 P) mainGlobals (Str.ofString "Cache") = some (some (Value.ref 830)) := (kfs0 P).2.2.2.2.2.2.1
theorem kf155 (P : Params) : nsIn (hd.heap_39 P) mainGlobals (Str.ofString "sorted") = some none := (kfs0 P).2.2.2.2.2.2.2.1
theorem kf156 (P : Params) : nsIn (hd.heap_39 P) mainGlobals (Str.ofString "_law_use") = some (some (Value.ref 1053)) := (kfs0 P).2.2.2.2.2.2.2.2.1
theorem kf157 (P : Params) : nsIn (hd.heap_39 P) mainGlobals (Str.ofString "next") = some none := (kfs0 P).2.2.2.2.2.2.2.2.2.1
theorem kf158 (P : Params) : nsIn (hd.heap_39 P) mainGlobals (Str.ofString "LFUCache") = some (some (Value.ref 979)) := (kfs0 P).2.2.2.2.2.2.2.2.2.2.1
theorem kf159 (P : Params) : nsIn (hd.heap_39 P) mainGlobals (Str.ofString "LRUCache") = some (some (Value.ref 1044)) := (kfs0 P).2.2.2.2.2.2.2.2.2.2.2.1
theorem kf160 (P : Params) : nsIn (hd.heap_39 P) mainGlobals (Str.ofString "FIFOCache") = some (some (Value.ref 882)) := (kfs0 P).2.2.2.2.2.2.2.2.2.2.2.2.1
theorem kf161 (P : Params) : nsIn (hd.heap_39 P) mainGlobals (Str.ofString "enumerate") = some none := (kfs0 P).2.2.2.2.2.2.2.2.2.2.2.2.2.1
theorem kf162 (P : Params) : nsIn (hd.heap_39 P) mainGlobals (Str.ofString "KeyError") = some none := (kfs0 P).2.2.2.2.2.2.2.2.2.2.2.2.2.2.1
theorem kf212 (P : Params) : specialIn (hd.heap_39 P) Value.none (Str.ofString "__get__") = some none := (kfs0 P).2.2.2.2.2.2.2.2.2.2.2.2.2.2.2.1
theorem kf19 (P : Params) : codeIn (hd.heap_39 P) (Value.ref 1003) (Str.ofString "LRUCache.__getitem__") = true := (kfs0 P).2.2.2.2.2.2.2.2.2.2.2.2.2.2.2.2.1
theorem kf92 (P : Params) : fnIn (hd.heap_39 P) 1004 = true := (kfs0 P).2.2.2.2.2.2.2.2.2.2.2.2.2.2.2.2.2.1
theorem kf106 (P : Params) : isFn (hd.heap_39 P) (Value.ref 1004) = true := (kfs0 P).2.2.2.2.2.2.2.2.2.2.2.2.2.2.2.2.2.2.1
theorem kf136 (P : Params) : makesIn (hd.heap_39 P) 1004 = false := (kfs0 P).2.2.2.2.2.2.2.2.2.2.2.2.2.2.2.2.2.2.2.1
theorem kf11 (P : Params) : codeIn (hd.heap_39 P) (Value.ref 1011) (Str.ofString "LRUCache.__setitem__") = true := (kfs0 P).2.2.2.2.2.2.2.2.2.2.2.2.2.2.2.2.2.2.2.2.1
theorem kf123 (P : Params) : isFn (hd.heap_39 P) (Value.ref 1012) = true := (kfs0 P).2.2.2.2.2.2.2.2.2.2.2.2.2.2.2.2.2.2.2.2.2.1
theorem kf134 (P : Params) : makesIn (hd.heap_39 P) 1012 = false := (kfs0 P).2.2.2.2.2.2.2.2.2.2.2.2.2.2.2.2.2.2.2.2.2.2.1
theorem kf17 (P : Params) : codeIn (hd.heap_39 P) (Value.ref 1019) (Str.ofString "LRUCache.__delitem__") = true := (kfs0 P).2.2.2.2.2.2.2.2.2.2.2.2.2.2.2.2.2.2.2.2.2.2.2.1
theorem kf113 (P : Params) : isFn (hd.heap_39 P) (Value.ref 1020) = true := (kfs0 P).2.2.2.2.2.2.2.2.2.2.2.2.2.2.2.2.2.2.2.2.2.2.2.2.1
theorem kf137 (P : Params) : makesIn (hd.heap_39 P) 1020 = false := (kfs0 P).2.2.2.2.2.2.2.2.2.2.2.2.2.2.2.2.2.2.2.2.2.2.2.2.2.1
theorem kf18 (P : Params) : codeIn (hd.heap_39 P) (Value.ref 1026) (Str.ofString "LRUCache.popitem") = true := (kfs0 P).2.2.2.2.2.2.2.2.2.2.2.2.2.2.2.2.2.2.2.2.2.2.2.2.2.2.1
theorem kf104 (P : Params) : isFn (hd.heap_39 P) (Value.ref 1027) = true := (kfs0 P).2.2.2.2.2.2.2.2.2.2.2.2.2.2.2.2.2.2.2.2.2.2.2.2.2.2.2.1
theorem kf126 (P : Params) : makesIn (hd.heap_39 P) 1027 = false := (kfs0 P).2.2.2.2.2.2.2.2.2.2.2.2.2.2.2.2.2.2.2.2.2.2.2.2.2.2.2.2.1
theorem kf15 (P : Params) : codeIn (hd.heap_39 P) (Value.ref 1040) (Str.ofString "LRUCache.__touch") = true := (kfs0 P).2.2.2.2.2.2.2.2.2.2.2.2.2.2.2.2.2.2.2.2.2.2.2.2.2.2.2.2.2
theorem kfs1 (P : Params) : (isFn (hd.heap_39 P) (Value.ref 1041) = true) ∧
    (makesIn (hd.heap_39 P) 1041 = false) ∧
    (findIn (hd.heap_39 P) (Value.ref 1044) (Str.ofString "_Cache__data") = some none) ∧
    (findIn (hd.heap_39 P) (Value.ref 1044) (Str.ofString "_Cache__size") = some (some Value.none)) ∧
    (findIn (hd.heap_39 P) (Value.ref 1044) (Str.ofString "_LRUCache__order") = some none) ∧
    (findIn (hd.heap_39 P) (Value.ref 1044) (Str.ofString "_Cache__currsize") = some none) ∧
    (findIn (hd.heap_39 P) (Value.ref 1044) (Str.ofString "__setattr__") = some (some (Value.builtin "object.__setattr__"))) ∧
    (findIn (hd.heap_39 P) (Value.ref 1044) (Str.ofString "__contains__") = some (some (Value.ref 749))) ∧
    (findIn (hd.heap_39 P) (Value.ref 1044) (Str.ofString "_Cache__maxsize") = some none) ∧
    (findIn (hd.heap_39 P) (Value.ref 1044) (Str.ofString "popitem") = some (some (Value.ref 1027))) ∧
    (findIn (hd.heap_39 P) (Value.ref 1044) (Str.ofString "_Cache__marker") = some (some (Value.ref 706))) ∧
    (findIn (hd.heap_39 P) (Value.ref 1044) (Str.ofString "__len__") = some (some (Value.ref 770))) ∧
    (findIn (hd.heap_39 P) (Value.ref 1044) (Str.ofString "_LRUCache__touch") = some (some (Value.ref 1041))) ∧
    (findIn (hd.heap_39 P) (Value.ref 1044) (Str.ofString "__getitem__") = some (some (Value.ref 1004))) ∧
    (findIn (hd.heap_39 P) (Value.ref 1044) (Str.ofString "get") = some (some (Value.ref 778))) ∧
    (findIn (hd.heap_39 P) (Value.ref 1044) (Str.ofString "__delitem__") = some (some (Value.ref 1020))) ∧
    (findIn (hd.heap_39 P) (Value.ref 1044) (Str.ofString "getsizeof") = some (some (Value.ref 826))) ∧
    (findIn (hd.heap_39 P) (Value.ref 1044) (Str.ofString "__init__") = some (some (Value.ref 996))) ∧
    (findIn (hd.heap_39 P) (Value.ref 1044) (Str.ofString "__iter__") = some (some (Value.ref 763))) ∧
    (findIn (hd.heap_39 P) (Value.ref 1044) (Str.ofString "pop") = some (some (Value.ref 786))) ∧
    (findIn (hd.heap_39 P) (Value.ref 1044) (Str.ofString "__setitem__") = some (some (Value.ref 1012))) ∧
    (hasDictIn (hd.heap_39 P) 1044 = true) ∧
    (makesIn (hd.heap_39 P) 1044 = true) ∧
    (noSeq (hd.heap_39 P) 1044 = true) ∧
    (plainGet (hd.heap_39 P) 1044 (Str.ofString "_Cache__size") = true) ∧
    (plainGet (hd.heap_39 P) 1044 (Str.ofString "_Cache__data") = true) ∧
    (plainGet (hd.heap_39 P) 1044 (Str.ofString "_LRUCache__order") = true) ∧
    (plainGet (hd.heap_39 P) 1044 (Str.ofString "_Cache__currsize") = true) ∧
    (plainGet (hd.heap_39 P) 1044 (Str.ofString "popitem") = true) ∧
    (plainGet (hd.heap_39 P) 1044 (Str.ofString "_Cache__marker") = true) := ⟨by k_is, by k_is, by k_is, by k_is, by k_is, by k_is, by k_is, by k_is, by k_is, by k_is, by k_is, by k_is, by k_is, by k_is, by k_is, by k_is, by k_is, by k_is, by k_is, by k_is, by k_is, by k_is, by k_is, by k_is, by k_is, by k_is, by k_is, by k_is, by k_is, by k_is⟩
theorem kf105 (P : Params) : isFn (hd.heap_39 P) (Value.ref 1041) = true := (kfs1 P).1
theorem kf135 (P : Params) : makesIn (hd.heap_39 P) 1041 = false := (kfs1 P).2.1
theorem kf38 (P : Params) : findIn (hd.heap_39 P) (Value.ref 1044) (Str.ofString "_Cache__data") = some none := (kfs1 P).2.2.1
theorem kf39 (P : Params) : findIn (hd.heap_39 P) (Value.ref 1044) (Str.ofString "_Cache__size") = some (some Value.none) := (kfs1 P).2.2.2.1
theorem kf40 (P : Params) : findIn (hd.heap_39 P) (Value.ref 1044) (Str.ofString "_LRUCache__order") = some none := (kfs1 P).2.2.2.2.1
theorem kf45 (P : Params) : findIn (hd.heap_39 P) (Value.ref 1044) (Str.ofString "_Cache__currsize") = some none := (kfs1 P).2.2.2.2.2.1
theorem kf51 (P : Params) : findIn (hd.heap_39 P) (Value.ref 1044) (Str.ofString "__setattr__") = some (some (Value.builtin "object.__setattr__")) := (kfs1 P).2.2.2.2.2.2.1
theorem kf52 (P : Params) : findIn (hd.heap_39 P) (Value.ref 1044) (Str.ofString "__contains__") = some (some (Value.ref 749)) := (kfs1 P).2.2.2.2.2.2.2.1
theorem kf55 (P : Params) : findIn (hd.heap_39 P) (Value.ref 1044) (Str.ofString "_Cache__maxsize") = some none := (kfs1 P).2.2.2.2.2.2.2.2.1
theorem kf59 (P : Params) : findIn (hd.heap_39 P) (Value.ref 1044) (Str.ofString "popitem") = some (some (Value.ref 1027)) := (kfs1 P).2.2.2.2.2.2.2.2.2.1
theorem kf60 (P : Params) : findIn (hd.heap_39 P) (Value.ref 1044) (Str.ofString "_Cache__marker") = some (some (Value.ref 706)) := (kfs1 P).2.2.2.2.2.2.2.2.2.2.1
theorem kf64 (P : Params) : findIn (hd.heap_39 P) (Value.ref 1044) (Str.ofString "__len__") = some (some (Value.ref 770)) := (kfs1 P).2.2.2.2.2.2.2.2.2.2.2.1
theorem kf65 (P : Params) : findIn (hd.heap_39 P) (Value.ref 1044) (Str.ofString "_LRUCache__touch") = some (some (Value.ref 1041)) := (kfs1 P).2.2.2.2.2.2.2.2.2.2.2.2.1
theorem kf66 (P : Params) : findIn (hd.heap_39 P) (Value.ref 1044) (Str.ofString "__getitem__") = some (some (Value.ref 1004)) := (kfs1 P).2.2.2.2.2.2.2.2.2.2.2.2.2.1
theorem kf71 (P : Params) : findIn (hd.heap_39 P) (Value.ref 1044) (Str.ofString "get") = some (some (Value.ref 778)) := (kfs1 P).2.2.2.2.2.2.2.2.2.2.2.2.2.2.1
theorem kf72 (P : Params) : findIn (hd.heap_39 P) (Value.ref 1044) (Str.ofString "__delitem__") = some (some (Value.ref 1020)) := (kfs1 P).2.2.2.2.2.2.2.2.2.2.2.2.2.2.2.1
theorem kf80 (P : Params) : findIn (hd.heap_39 P) (Value.ref 1044) (Str.ofString "getsizeof") = some (some (Value.ref 826)) := (kfs1 P).2.2.2.2.2.2.2.2.2.2.2.2.2.2.2.2.1
theorem kf83 (P : Params) : findIn (hd.heap_39 P) (Value.ref 1044) (Str.ofString "__init__") = some (some (Value.ref 996)) := (kfs1 P).2.2.2.2.2.2.2.2.2.2.2.2.2.2.2.2.2.1
theorem kf86 (P : Params) : findIn (hd.heap_39 P) (Value.ref 1044) (Str.ofString "__iter__") = some (some (Value.ref 763)) := (kfs1 P).2.2.2.2.2.2.2.2.2.2.2.2.2.2.2.2.2.2.1
theorem kf89 (P : Params) : findIn (hd.heap_39 P) (Value.ref 1044) (Str.ofString "pop") = some (some (Value.ref 786)) := (kfs1 P).2.2.2.2.2.2.2.2.2.2.2.2.2.2.2.2.2.2.2.1
theorem kf91 (P : Params) : findIn (hd.heap_39 P) (Value.ref 1044) (Str.ofString "__setitem__") = some (some (Value.ref 1012)) := (kfs1 P).2.2.2.2.2.2.2.2.2.2.2.2.2.2.2.2.2.2.2.2.1
theorem kf98 (P : Params) : hasDictIn (hd.heap_39 P) 1044 = true := (kfs1 P).2.2.2.2.2.2.2.2.2.2.2.2.2.2.2.2.2.2.2.2.2.1
theorem kf141 (P : Params) : makesIn (hd.heap_39 P) 1044 = true := (kfs1 P).2.2.2.2.2.2.2.2.2.2.2.2.2.2.2.2.2.2.2.2.2.2.1
theorem kf147 (P : Params) : noSeq (hd.heap_39 P) 1044 = true := (kfs1 P).2.2.2.2.2.2.2.2.2.2.2.2.2.2.2.2.2.2.2.2.2.2.2.1
theorem kf167 (P : Params) : plainGet (hd.heap_39 P) 1044 (Str.ofString "_Cache__size") = true := (kfs1 P).2.2.2.2.2.2.2.2.2.2.2.2.2.2.2.2.2.2.2.2.2.2.2.2.1
theorem kf172 (P : Params) : plainGet (hd.heap_39 P) 1044 (Str.ofString "_Cache__data") = true := (kfs1 P).2.2.2.2.2.2.2.2.2.2.2.2.2.2.2.2.2.2.2.2.2.2.2.2.2.1
theorem kf173 (P : Params) : plainGet (hd.heap_39 P) 1044 (Str.ofString "_LRUCache__order") = true := (kfs1 P).2.2.2.2.2.2.2.2.2.2.2.2.2.2.2.2.2.2.2.2.2.2.2.2.2.2.1
theorem kf176 (P : Params) : plainGet (hd.heap_39 P) 1044 (Str.ofString "_Cache__currsize") = true := (kfs1 P).2.2.2.2.2.2.2.2.2.2.2.2.2.2.2.2.2.2.2.2.2.2.2.2.2.2.2.1
theorem kf179 (P : Params) : plainGet (hd.heap_39 P) 1044 (Str.ofString "popitem") = true := (kfs1 P).2.2.2.2.2.2.2.2.2.2.2.2.2.2.2.2.2.2.2.2.2.2.2.2.2.2.2.2.1
theorem kf180 (P : Params) : plainGet (hd.heap_39 P) 1044 (Str.ofString "_Cache__marker") = true := (kfs1 P).2.2.2.2.2.2.2.2.2.2.2.2.2.2.2.2.2.2.2.2.2.2.2.2.2.2.2.2.2
theorem kfs2 (P : Params) : (plainGet (hd.heap_39 P) 1044 (Str.ofString "_Cache__maxsize") = true) ∧
    (plainGet (hd.heap_39 P) 1044 (Str.ofString "_LRUCache__touch") = true) ∧
    (plainGet (hd.heap_39 P) 1044 (Str.ofString "get") = true) ∧
    (plainGet (hd.heap_39 P) 1044 (Str.ofString "getsizeof") = true) ∧
    (plainGet (hd.heap_39 P) 1044 (Str.ofString "pop") = true) ∧
    (plainOver (hd.heap_39 P) 1044 = true) ∧
    (takerIn (hd.heap_39 P) 1044 (Str.ofString "_Cache__currsize") = some none) ∧
    (takerIn (hd.heap_39 P) 1044 (Str.ofString "_Cache__data") = some none) ∧
    (takerIn (hd.heap_39 P) 1044 (Str.ofString "_Cache__maxsize") = some none) ∧
    (takerIn (hd.heap_39 P) 1044 (Str.ofString "_LRUCache__order") = some none) ∧
    (codeIn (hd.heap_39 P) (Value.ref 1052) (Str.ofString "_law_use") = true) ∧
    (makesIn (hd.heap_39 P) 1053 = false) ∧
    (isFn (hd.heap_39 P) (Value.ref 706) = false) ∧
    (noGet (hd.heap_39 P) (some (Value.ref 706)) = true) ∧
    (specialIn (hd.heap_39 P) (Value.ref 706) (Str.ofString "__get__") = some none) ∧
    (codeIn (hd.heap_39 P) (Value.ref 713) (Str.ofString "Cache.__init__") = true) ∧
    (codeIn (hd.heap_39 P) (Value.ref 727) (Str.ofString "Cache.__getitem__") = true) ∧
    (fnIn (hd.heap_39 P) 728 = true) ∧
    (isFn (hd.heap_39 P) (Value.ref 728) = true) ∧
    (codeIn (hd.heap_39 P) (Value.ref 734) (Str.ofString "Cache.__setitem__") = true) ∧
    (makesIn (hd.heap_39 P) 735 = false) ∧
    (codeIn (hd.heap_39 P) (Value.ref 741) (Str.ofString "Cache.__delitem__") = true) ∧
    (makesIn (hd.heap_39 P) 742 = false) ∧
    (codeIn (hd.heap_39 P) (Value.ref 748) (Str.ofString "Cache.__contains__") = true) ∧
    (isFn (hd.heap_39 P) (Value.ref 749) = true) ∧
    (codeIn (hd.heap_39 P) (Value.ref 762) (Str.ofString "Cache.__iter__") = true) ∧
    (isFn (hd.heap_39 P) (Value.ref 763) = true) ∧
    (codeIn (hd.heap_39 P) (Value.ref 769) (Str.ofString "Cache.__len__") = true) ∧
    (isFn (hd.heap_39 P) (Value.ref 770) = true) ∧
    (makesIn (hd.heap_39 P) 770 = false) := ⟨by k_is, by k_is, by k_is, by k_is, by k_is, by k_is, by k_is, by k_is, by k_is, by k_is, by k_is, by k_is, by k_is, by k_is, by k_is, by k_is, by k_is, by k_is, by k_is, by k_is, by k_is, by k_is, by k_is, by k_is, by k_is, by k_is, by k_is, by k_is, by k_is, by k_is⟩
theorem kf184 (P : Params) : plainGet (hd.heap_39 P) 1044 (Str.ofString "_Cache__maxsize") = true := (kfs2 P).1
theorem kf185 (P : Params) : plainGet (hd.heap_39 P) 1044 (Str.ofString "_LRUCache__touch") = true := (kfs2 P).2.1
theorem kf191 (P : Params) : plainGet (hd.heap_39 P) 1044 (Str.ofString "get") = true := (kfs2 P).2.2.1
theorem kf194 (P : Params) : plainGet (hd.heap_39 P) 1044 (Str.ofString "getsizeof") = true := (kfs2 P).2.2.2.1
theorem kf197 (P : Params) : plainGet (hd.heap_39 P) 1044 (Str.ofString "pop") = true := (kfs2 P).2.2.2.2.1
theorem kf200 (P : Params) : plainOver (hd.heap_39 P) 1044 = true := (kfs2 P).2.2.2.2.2.1
theorem kf220 (P : Params) : takerIn (hd.heap_39 P) 1044 (Str.ofString "_Cache__currsize") = some none := (kfs2 P).2.2.2.2.2.2.1
theorem kf225 (P : Params) : takerIn (hd.heap_39 P) 1044 (Str.ofString "_Cache__data") = some none := (kfs2 P).2.2.2.2.2.2.2.1
theorem kf226 (P : Params) : takerIn (hd.heap_39 P) 1044 (Str.ofString "_Cache__maxsize") = some none := (kfs2 P).2.2.2.2.2.2.2.2.1
theorem kf231 (P : Params) : takerIn (hd.heap_39 P) 1044 (Str.ofString "_LRUCache__order") = some none := (kfs2 P).2.2.2.2.2.2.2.2.2.1
theorem kf3 (P : Params) : codeIn (hd.heap_39 P) (Value.ref 1052) (Str.ofString "_law_use") = true := (kfs2 P).2.2.2.2.2.2.2.2.2.2.1
theorem kf125 (P : Params) : makesIn (hd.heap_39 P) 1053 = false := (kfs2 P).2.2.2.2.2.2.2.2.2.2.2.1
theorem kf107 (P : Params) : isFn (hd.heap_39 P) (Value.ref 706) = false := (kfs2 P).2.2.2.2.2.2.2.2.2.2.2.2.1
theorem kf146 (P : Params) : noGet (hd.heap_39 P) (some (Value.ref 706)) = true := (kfs2 P).2.2.2.2.2.2.2.2.2.2.2.2.2.1
theorem kf214 (P : Params) : specialIn (hd.heap_39 P) (Value.ref 706) (Str.ofString "__get__") = some none := (kfs2 P).2.2.2.2.2.2.2.2.2.2.2.2.2.2.1
theorem kf13 (P : Params) : codeIn (hd.heap_39 P) (Value.ref 713) (Str.ofString "Cache.__init__") = true := (kfs2 P).2.2.2.2.2.2.2.2.2.2.2.2.2.2.2.1
theorem kf7 (P : Params) : codeIn (hd.heap_39 P) (Value.ref 727) (Str.ofString "Cache.__getitem__") = true := (kfs2 P).2.2.2.2.2.2.2.2.2.2.2.2.2.2.2.2.1
theorem kf94 (P : Params) : fnIn (hd.heap_39 P) 728 = true := (kfs2 P).2.2.2.2.2.2.2.2.2.2.2.2.2.2.2.2.2.1
theorem kf115 (P : Params) : isFn (hd.heap_39 P) (Value.ref 728) = true := (kfs2 P).2.2.2.2.2.2.2.2.2.2.2.2.2.2.2.2.2.2.1
theorem kf1 (P : Params) : codeIn (hd.heap_39 P) (Value.ref 734) (Str.ofString "Cache.__setitem__") = true := (kfs2 P).2.2.2.2.2.2.2.2.2.2.2.2.2.2.2.2.2.2.2.1
theorem kf124 (P : Params) : makesIn (hd.heap_39 P) 735 = false := (kfs2 P).2.2.2.2.2.2.2.2.2.2.2.2.2.2.2.2.2.2.2.2.1
theorem kf8 (P : Params) : codeIn (hd.heap_39 P) (Value.ref 741) (Str.ofString "Cache.__delitem__") = true := (kfs2 P).2.2.2.2.2.2.2.2.2.2.2.2.2.2.2.2.2.2.2.2.2.1
theorem kf132 (P : Params) : makesIn (hd.heap_39 P) 742 = false := (kfs2 P).2.2.2.2.2.2.2.2.2.2.2.2.2.2.2.2.2.2.2.2.2.2.1
theorem kf6 (P : Params) : codeIn (hd.heap_39 P) (Value.ref 748) (Str.ofString "Cache.__contains__") = true := (kfs2 P).2.2.2.2.2.2.2.2.2.2.2.2.2.2.2.2.2.2.2.2.2.2.2.1
theorem kf100 (P : Params) : isFn (hd.heap_39 P) (Value.ref 749) = true := (kfs2 P).2.2.2.2.2.2.2.2.2.2.2.2.2.2.2.2.2.2.2.2.2.2.2.2.1
theorem kf10 (P : Params) : codeIn (hd.heap_39 P) (Value.ref 762) (Str.ofString "Cache.__iter__") = true := (kfs2 P).2.2.2.2.2.2.2.2.2.2.2.2.2.2.2.2.2.2.2.2.2.2.2.2.2.1
theorem kf112 (P : Params) : isFn (hd.heap_39 P) (Value.ref 763) = true := (kfs2 P).2.2.2.2.2.2.2.2.2.2.2.2.2.2.2.2.2.2.2.2.2.2.2.2.2.2.1
theorem kf9 (P : Params) : codeIn (hd.heap_39 P) (Value.ref 769) (Str.ofString "Cache.__len__") = true := (kfs2 P).2.2.2.2.2.2.2.2.2.2.2.2.2.2.2.2.2.2.2.2.2.2.2.2.2.2.2.1
theorem kf102 (P : Params) : isFn (hd.heap_39 P) (Value.ref 770) = true := (kfs2 P).2.2.2.2.2.2.2.2.2.2.2.2.2.2.2.2.2.2.2.2.2.2.2.2.2.2.2.2.1
theorem kf131 (P : Params) : makesIn (hd.heap_39 P) 770 = false := (kfs2 P).2.2.2.2.2.2.2.2.2.2.2.2.2.2.2.2.2.2.2.2.2.2.2.2.2.2.2.2.2
theorem kfs3 (P : Params) : (codeIn (hd.heap_39 P) (Value.ref 777) (Str.ofString "Cache.get") = true) ∧
    (isFn (hd.heap_39 P) (Value.ref 778) = true) ∧
    (makesIn (hd.heap_39 P) 778 = false) ∧
    (codeIn (hd.heap_39 P) (Value.ref 785) (Str.ofString "Cache.pop") = true) ∧
    (isFn (hd.heap_39 P) (Value.ref 786) = true) ∧
    (makesIn (hd.heap_39 P) 786 = false) ∧
    (recIn (hd.heap_39 P) 826 "staticmethod" = some [Value.ref 824, Value.bool false]) ∧
    (specialIn (hd.heap_39 P) (Value.ref 826) (Str.ofString "__get__") = some (some (Value.builtin "staticmethod.__get__"))) ∧
    (takesIn (hd.heap_39 P) (Value.ref 826) = some false) ∧
    (findCls (hd.heap_39 P) (Value.ref 830) (Value.ref 89) (Str.ofString "getsizeof") = some (CFound.get (Value.builtin "staticmethod.__get__") (Value.ref 826) Value.none (Value.ref 830))) ∧
    (findCls (hd.heap_39 P) (Value.ref 830) (Value.ref 89) (Str.ofString "__getitem__") = some (CFound.val (Value.ref 728))) ∧
    (findCls (hd.heap_39 P) (Value.ref 830) (Value.ref 89) (Str.ofString "__init__") = some (CFound.val (Value.ref 714))) ∧
    (readsIn (hd.heap_39 P) 830 (Value.ref 89) = true) ∧
    (specialIn (hd.heap_39 P) (Value.ref 830) (Str.ofString "__getattribute__") = some (some (Value.builtin "type.__getattribute__"))) ∧
    (typeIn (hd.heap_39 P) (Value.ref 830) = some (Value.ref 89)) ∧
    (codeIn (hd.heap_39 P) (Value.ref 848) (Str.ofString "FIFOCache.__init__") = true) ∧
    (isFn (hd.heap_39 P) (Value.ref 849) = true) ∧
    (codeIn (hd.heap_39 P) (Value.ref 856) (Str.ofString "FIFOCache.__setitem__") = true) ∧
    (isFn (hd.heap_39 P) (Value.ref 857) = true) ∧
    (makesIn (hd.heap_39 P) 857 = false) ∧
    (codeIn (hd.heap_39 P) (Value.ref 864) (Str.ofString "FIFOCache.__delitem__") = true) ∧
    (isFn (hd.heap_39 P) (Value.ref 865) = true) ∧
    (makesIn (hd.heap_39 P) 865 = false) ∧
    (codeIn (hd.heap_39 P) (Value.ref 871) (Str.ofString "FIFOCache.popitem") = true) ∧
    (isFn (hd.heap_39 P) (Value.ref 872) = true) ∧
    (makesIn (hd.heap_39 P) 872 = false) ∧
    (findIn (hd.heap_39 P) (Value.ref 882) (Str.ofString "_FIFOCache__order") = some none) ∧
    (findIn (hd.heap_39 P) (Value.ref 882) (Str.ofString "_Cache__data") = some none) ∧
    (findIn (hd.heap_39 P) (Value.ref 882) (Str.ofString "_Cache__size") = some (some Value.none)) ∧
    (findIn (hd.heap_39 P) (Value.ref 882) (Str.ofString "_Cache__currsize") = some none) := ⟨by k_is, by k_is, by k_is, by k_is, by k_is, by k_is, by k_is, by k_is, by k_is, by k_is, by k_is, by k_is, by k_is, by k_is, by k_is, by k_is, by k_is, by k_is, by k_is, by k_is, by k_is, by k_is, by k_is, by k_is, by k_is, by k_is, by k_is, by k_is, by k_is, by k_is⟩
theorem kf0 (P : Params) : codeIn (hd.heap_39 P) (Value.ref 777) (Str.ofString "Cache.get") = true := (kfs3 P).1
theorem kf103 (P : Params) : isFn (hd.heap_39 P) (Value.ref 778) = true := (kfs3 P).2.1
theorem kf127 (P : Params) : makesIn (hd.heap_39 P) 778 = false := (kfs3 P).2.2.1
theorem kf2 (P : Params) : codeIn (hd.heap_39 P) (Value.ref 785) (Str.ofString "Cache.pop") = true := (kfs3 P).2.2.2.1
theorem kf121 (P : Params) : isFn (hd.heap_39 P) (Value.ref 786) = true := (kfs3 P).2.2.2.2.1
theorem kf140 (P : Params) : makesIn (hd.heap_39 P) 786 = false := (kfs3 P).2.2.2.2.2.1
theorem kf204 (P : Params) : recIn (hd.heap_39 P) 826 "staticmethod" = some [Value.ref 824, Value.bool false] := (kfs3 P).2.2.2.2.2.2.1
theorem kf216 (P : Params) : specialIn (hd.heap_39 P) (Value.ref 826) (Str.ofString "__get__") = some (some (Value.builtin "staticmethod.__get__")) := (kfs3 P).2.2.2.2.2.2.2.1
theorem kf238 (P : Params) : takesIn (hd.heap_39 P) (Value.ref 826) = some false := (kfs3 P).2.2.2.2.2.2.2.2.1
theorem kf28 (P : Params) : findCls (hd.heap_39 P) (Value.ref 830) (Value.ref 89) (Str.ofString "getsizeof") = some (CFound.get (Value.builtin "staticmethod.__get__") (Value.ref 826) Value.none (Value.ref 830)) := (kfs3 P).2.2.2.2.2.2.2.2.2.1
theorem kf30 (P : Params) : findCls (hd.heap_39 P) (Value.ref 830) (Value.ref 89) (Str.ofString "__getitem__") = some (CFound.val (Value.ref 728)) := (kfs3 P).2.2.2.2.2.2.2.2.2.2.1
theorem kf31 (P : Params) : findCls (hd.heap_39 P) (Value.ref 830) (Value.ref 89) (Str.ofString "__init__") = some (CFound.val (Value.ref 714)) := (kfs3 P).2.2.2.2.2.2.2.2.2.2.2.1
theorem kf202 (P : Params) : readsIn (hd.heap_39 P) 830 (Value.ref 89) = true := (kfs3 P).2.2.2.2.2.2.2.2.2.2.2.2.1
theorem kf213 (P : Params) : specialIn (hd.heap_39 P) (Value.ref 830) (Str.ofString "__getattribute__") = some (some (Value.builtin "type.__getattribute__")) := (kfs3 P).2.2.2.2.2.2.2.2.2.2.2.2.2.1
theorem kf240 (P : Params) : typeIn (hd.heap_39 P) (Value.ref 830) = some (Value.ref 89) := (kfs3 P).2.2.2.2.2.2.2.2.2.2.2.2.2.2.1
theorem kf23 (P : Params) : codeIn (hd.heap_39 P) (Value.ref 848) (Str.ofString "FIFOCache.__init__") = true := (kfs3 P).2.2.2.2.2.2.2.2.2.2.2.2.2.2.2.1
theorem kf119 (P : Params) : isFn (hd.heap_39 P) (Value.ref 849) = true := (kfs3 P).2.2.2.2.2.2.2.2.2.2.2.2.2.2.2.2.1
theorem kf12 (P : Params) : codeIn (hd.heap_39 P) (Value.ref 856) (Str.ofString "FIFOCache.__setitem__") = true := (kfs3 P).2.2.2.2.2.2.2.2.2.2.2.2.2.2.2.2.2.1
theorem kf122 (P : Params) : isFn (hd.heap_39 P) (Value.ref 857) = true := (kfs3 P).2.2.2.2.2.2.2.2.2.2.2.2.2.2.2.2.2.2.1
theorem kf133 (P : Params) : makesIn (hd.heap_39 P) 857 = false := (kfs3 P).2.2.2.2.2.2.2.2.2.2.2.2.2.2.2.2.2.2.2.1
theorem kf20 (P : Params) : codeIn (hd.heap_39 P) (Value.ref 864) (Str.ofString "FIFOCache.__delitem__") = true := (kfs3 P).2.2.2.2.2.2.2.2.2.2.2.2.2.2.2.2.2.2.2.2.1
theorem kf114 (P : Params) : isFn (hd.heap_39 P) (Value.ref 865) = true := (kfs3 P).2.2.2.2.2.2.2.2.2.2.2.2.2.2.2.2.2.2.2.2.2.1
theorem kf138 (P : Params) : makesIn (hd.heap_39 P) 865 = false := (kfs3 P).2.2.2.2.2.2.2.2.2.2.2.2.2.2.2.2.2.2.2.2.2.2.1
theorem kf21 (P : Params) : codeIn (hd.heap_39 P) (Value.ref 871) (Str.ofString "FIFOCache.popitem") = true := (kfs3 P).2.2.2.2.2.2.2.2.2.2.2.2.2.2.2.2.2.2.2.2.2.2.2.1
theorem kf108 (P : Params) : isFn (hd.heap_39 P) (Value.ref 872) = true := (kfs3 P).2.2.2.2.2.2.2.2.2.2.2.2.2.2.2.2.2.2.2.2.2.2.2.2.1
theorem kf128 (P : Params) : makesIn (hd.heap_39 P) 872 = false := (kfs3 P).2.2.2.2.2.2.2.2.2.2.2.2.2.2.2.2.2.2.2.2.2.2.2.2.2.1
theorem kf37 (P : Params) : findIn (hd.heap_39 P) (Value.ref 882) (Str.ofString "_FIFOCache__order") = some none := (kfs3 P).2.2.2.2.2.2.2.2.2.2.2.2.2.2.2.2.2.2.2.2.2.2.2.2.2.2.1
theorem kf41 (P : Params) : findIn (hd.heap_39 P) (Value.ref 882) (Str.ofString "_Cache__data") = some none := (kfs3 P).2.2.2.2.2.2.2.2.2.2.2.2.2.2.2.2.2.2.2.2.2.2.2.2.2.2.2.1
theorem kf42 (P : Params) : findIn (hd.heap_39 P) (Value.ref 882) (Str.ofString "_Cache__size") = some (some Value.none) := (kfs3 P).2.2.2.2.2.2.2.2.2.2.2.2.2.2.2.2.2.2.2.2.2.2.2.2.2.2.2.2.1
theorem kf46 (P : Params) : findIn (hd.heap_39 P) (Value.ref 882) (Str.ofString "_Cache__currsize") = some none := (kfs3 P).2.2.2.2.2.2.2.2.2.2.2.2.2.2.2.2.2.2.2.2.2.2.2.2.2.2.2.2.2
theorem kfs4 (P : Params) : (findIn (hd.heap_39 P) (Value.ref 882) (Str.ofString "__setattr__") = some (some (Value.builtin "object.__setattr__"))) ∧
    (findIn (hd.heap_39 P) (Value.ref 882) (Str.ofString "_Cache__maxsize") = some none) ∧
    (findIn (hd.heap_39 P) (Value.ref 882) (Str.ofString "__contains__") = some (some (Value.ref 749))) ∧
    (findIn (hd.heap_39 P) (Value.ref 882) (Str.ofString "_Cache__marker") = some (some (Value.ref 706))) ∧
    (findIn (hd.heap_39 P) (Value.ref 882) (Str.ofString "popitem") = some (some (Value.ref 872))) ∧
    (findIn (hd.heap_39 P) (Value.ref 882) (Str.ofString "__delitem__") = some (some (Value.ref 865))) ∧
    (findIn (hd.heap_39 P) (Value.ref 882) (Str.ofString "__getitem__") = some (some (Value.ref 728))) ∧
    (findIn (hd.heap_39 P) (Value.ref 882) (Str.ofString "__len__") = some (some (Value.ref 770))) ∧
    (findIn (hd.heap_39 P) (Value.ref 882) (Str.ofString "getsizeof") = some (some (Value.ref 826))) ∧
    (findIn (hd.heap_39 P) (Value.ref 882) (Str.ofString "__init__") = some (some (Value.ref 849))) ∧
    (findIn (hd.heap_39 P) (Value.ref 882) (Str.ofString "__iter__") = some (some (Value.ref 763))) ∧
    (findIn (hd.heap_39 P) (Value.ref 882) (Str.ofString "__setitem__") = some (some (Value.ref 857))) ∧
    (hasDictIn (hd.heap_39 P) 882 = true) ∧
    (makesIn (hd.heap_39 P) 882 = true) ∧
    (noSeq (hd.heap_39 P) 882 = true) ∧
    (plainGet (hd.heap_39 P) 882 (Str.ofString "_Cache__size") = true) ∧
    (plainGet (hd.heap_39 P) 882 (Str.ofString "_FIFOCache__order") = true) ∧
    (plainGet (hd.heap_39 P) 882 (Str.ofString "_Cache__data") = true) ∧
    (plainGet (hd.heap_39 P) 882 (Str.ofString "_Cache__currsize") = true) ∧
    (plainGet (hd.heap_39 P) 882 (Str.ofString "_Cache__marker") = true) ∧
    (plainGet (hd.heap_39 P) 882 (Str.ofString "_Cache__maxsize") = true) ∧
    (plainGet (hd.heap_39 P) 882 (Str.ofString "popitem") = true) ∧
    (plainGet (hd.heap_39 P) 882 (Str.ofString "getsizeof") = true) ∧
    (plainOver (hd.heap_39 P) 882 = true) ∧
    (takerIn (hd.heap_39 P) 882 (Str.ofString "_Cache__currsize") = some none) ∧
    (takerIn (hd.heap_39 P) 882 (Str.ofString "_Cache__data") = some none) ∧
    (takerIn (hd.heap_39 P) 882 (Str.ofString "_Cache__maxsize") = some none) ∧
    (takerIn (hd.heap_39 P) 882 (Str.ofString "_FIFOCache__order") = some none) ∧
    (codeIn (hd.heap_39 P) (Value.ref 905) (Str.ofString "LFUCache._Link.__init__") = true) ∧
    (isFn (hd.heap_39 P) (Value.ref 906) = true) := ⟨by k_is, by k_is, by k_is, by k_is, by k_is, by k_is, by k_is, by k_is, by k_is, by k_is, by k_is, by k_is, by k_is, by k_is, by k_is, by k_is, by k_is, by k_is, by k_is, by k_is, by k_is, by k_is, by k_is, by k_is, by k_is, by k_is, by k_is, by k_is, by k_is, by k_is⟩
theorem kf53 (P : Params) : findIn (hd.heap_39 P) (Value.ref 882) (Str.ofString "__setattr__") = some (some (Value.builtin "object.__setattr__")) := (kfs4 P).1
theorem kf56 (P : Params) : findIn (hd.heap_39 P) (Value.ref 882) (Str.ofString "_Cache__maxsize") = some none := (kfs4 P).2.1
theorem kf58 (P : Params) : findIn (hd.heap_39 P) (Value.ref 882) (Str.ofString "__contains__") = some (some (Value.ref 749)) := (kfs4 P).2.2.1
theorem kf61 (P : Params) : findIn (hd.heap_39 P) (Value.ref 882) (Str.ofString "_Cache__marker") = some (some (Value.ref 706)) := (kfs4 P).2.2.2.1
theorem kf67 (P : Params) : findIn (hd.heap_39 P) (Value.ref 882) (Str.ofString "popitem") = some (some (Value.ref 872)) := (kfs4 P).2.2.2.2.1
theorem kf73 (P : Params) : findIn (hd.heap_39 P) (Value.ref 882) (Str.ofString "__delitem__") = some (some (Value.ref 865)) := (kfs4 P).2.2.2.2.2.1
theorem kf74 (P : Params) : findIn (hd.heap_39 P) (Value.ref 882) (Str.ofString "__getitem__") = some (some (Value.ref 728)) := (kfs4 P).2.2.2.2.2.2.1
theorem kf78 (P : Params) : findIn (hd.heap_39 P) (Value.ref 882) (Str.ofString "__len__") = some (some (Value.ref 770)) := (kfs4 P).2.2.2.2.2.2.2.1
theorem kf81 (P : Params) : findIn (hd.heap_39 P) (Value.ref 882) (Str.ofString "getsizeof") = some (some (Value.ref 826)) := (kfs4 P).2.2.2.2.2.2.2.2.1
theorem kf84 (P : Params) : findIn (hd.heap_39 P) (Value.ref 882) (Str.ofString "__init__") = some (some (Value.ref 849)) := (kfs4 P).2.2.2.2.2.2.2.2.2.1
theorem kf88 (P : Params) : findIn (hd.heap_39 P) (Value.ref 882) (Str.ofString "__iter__") = some (some (Value.ref 763)) := (kfs4 P).2.2.2.2.2.2.2.2.2.2.1
theorem kf90 (P : Params) : findIn (hd.heap_39 P) (Value.ref 882) (Str.ofString "__setitem__") = some (some (Value.ref 857)) := (kfs4 P).2.2.2.2.2.2.2.2.2.2.2.1
theorem kf97 (P : Params) : hasDictIn (hd.heap_39 P) 882 = true := (kfs4 P).2.2.2.2.2.2.2.2.2.2.2.2.1
theorem kf142 (P : Params) : makesIn (hd.heap_39 P) 882 = true := (kfs4 P).2.2.2.2.2.2.2.2.2.2.2.2.2.1
theorem kf148 (P : Params) : noSeq (hd.heap_39 P) 882 = true := (kfs4 P).2.2.2.2.2.2.2.2.2.2.2.2.2.2.1
theorem kf168 (P : Params) : plainGet (hd.heap_39 P) 882 (Str.ofString "_Cache__size") = true := (kfs4 P).2.2.2.2.2.2.2.2.2.2.2.2.2.2.2.1
theorem kf171 (P : Params) : plainGet (hd.heap_39 P) 882 (Str.ofString "_FIFOCache__order") = true := (kfs4 P).2.2.2.2.2.2.2.2.2.2.2.2.2.2.2.2.1
theorem kf174 (P : Params) : plainGet (hd.heap_39 P) 882 (Str.ofString "_Cache__data") = true := (kfs4 P).2.2.2.2.2.2.2.2.2.2.2.2.2.2.2.2.2.1
theorem kf177 (P : Params) : plainGet (hd.heap_39 P) 882 (Str.ofString "_Cache__currsize") = true := (kfs4 P).2.2.2.2.2.2.2.2.2.2.2.2.2.2.2.2.2.2.1
theorem kf181 (P : Params) : plainGet (hd.heap_39 P) 882 (Str.ofString "_Cache__marker") = true := (kfs4 P).2.2.2.2.2.2.2.2.2.2.2.2.2.2.2.2.2.2.2.1
theorem kf186 (P : Params) : plainGet (hd.heap_39 P) 882 (Str.ofString "_Cache__maxsize") = true := (kfs4 P).2.2.2.2.2.2.2.2.2.2.2.2.2.2.2.2.2.2.2.2.1
theorem kf187 (P : Params) : plainGet (hd.heap_39 P) 882 (Str.ofString "popitem") = true := (kfs4 P).2.2.2.2.2.2.2.2.2.2.2.2.2.2.2.2.2.2.2.2.2.1
theorem kf195 (P : Params) : plainGet (hd.heap_39 P) 882 (Str.ofString "getsizeof") = true := (kfs4 P).2.2.2.2.2.2.2.2.2.2.2.2.2.2.2.2.2.2.2.2.2.2.1
theorem kf201 (P : Params) : plainOver (hd.heap_39 P) 882 = true := (kfs4 P).2.2.2.2.2.2.2.2.2.2.2.2.2.2.2.2.2.2.2.2.2.2.2.1
theorem kf221 (P : Params) : takerIn (hd.heap_39 P) 882 (Str.ofString "_Cache__currsize") = some none := (kfs4 P).2.2.2.2.2.2.2.2.2.2.2.2.2.2.2.2.2.2.2.2.2.2.2.2.1
theorem kf227 (P : Params) : takerIn (hd.heap_39 P) 882 (Str.ofString "_Cache__data") = some none := (kfs4 P).2.2.2.2.2.2.2.2.2.2.2.2.2.2.2.2.2.2.2.2.2.2.2.2.2.1
theorem kf228 (P : Params) : takerIn (hd.heap_39 P) 882 (Str.ofString "_Cache__maxsize") = some none := (kfs4 P).2.2.2.2.2.2.2.2.2.2.2.2.2.2.2.2.2.2.2.2.2.2.2.2.2.2.1
theorem kf232 (P : Params) : takerIn (hd.heap_39 P) 882 (Str.ofString "_FIFOCache__order") = some none := (kfs4 P).2.2.2.2.2.2.2.2.2.2.2.2.2.2.2.2.2.2.2.2.2.2.2.2.2.2.2.1
theorem kf25 (P : Params) : codeIn (hd.heap_39 P) (Value.ref 905) (Str.ofString "LFUCache._Link.__init__") = true := (kfs4 P).2.2.2.2.2.2.2.2.2.2.2.2.2.2.2.2.2.2.2.2.2.2.2.2.2.2.2.2.1
theorem kf101 (P : Params) : isFn (hd.heap_39 P) (Value.ref 906) = true := (kfs4 P).2.2.2.2.2.2.2.2.2.2.2.2.2.2.2.2.2.2.2.2.2.2.2.2.2.2.2.2.2
theorem kfs5 (P : Params) : (codeIn (hd.heap_39 P) (Value.ref 912) (Str.ofString "LFUCache._Link.unlink") = true) ∧
    (isFn (hd.heap_39 P) (Value.ref 913) = true) ∧
    (findIn (hd.heap_39 P) (Value.ref 917) (Str.ofString "__setattr__") = some (some (Value.builtin "object.__setattr__"))) ∧
    (findIn (hd.heap_39 P) (Value.ref 917) (Str.ofString "keys") = some (some (Value.ref 919))) ∧
    (findIn (hd.heap_39 P) (Value.ref 917) (Str.ofString "next") = some (some (Value.ref 920))) ∧
    (findIn (hd.heap_39 P) (Value.ref 917) (Str.ofString "count") = some (some (Value.ref 918))) ∧
    (findIn (hd.heap_39 P) (Value.ref 917) (Str.ofString "__init__") = some (some (Value.ref 906))) ∧
    (findIn (hd.heap_39 P) (Value.ref 917) (Str.ofString "prev") = some (some (Value.ref 921))) ∧
    (findIn (hd.heap_39 P) (Value.ref 917) (Str.ofString "unlink") = some (some (Value.ref 913))) ∧
    (hasDictIn (hd.heap_39 P) 917 = false) ∧
    (isClsIn (hd.heap_39 P) 917 = true) ∧
    (makesIn (hd.heap_39 P) 917 = true) ∧
    (plainGet (hd.heap_39 P) 917 (Str.ofString "keys") = true) ∧
    (plainGet (hd.heap_39 P) 917 (Str.ofString "next") = true) ∧
    (plainGet (hd.heap_39 P) 917 (Str.ofString "count") = true) ∧
    (plainGet (hd.heap_39 P) 917 (Str.ofString "prev") = true) ∧
    (plainGet (hd.heap_39 P) 917 (Str.ofString "unlink") = true) ∧
    (plainOver (hd.heap_39 P) 917 = true) ∧
    (takerIn (hd.heap_39 P) 917 (Str.ofString "prev") = some (some (Value.ref 921))) ∧
    (takerIn (hd.heap_39 P) 917 (Str.ofString "next") = some (some (Value.ref 920))) ∧
    (takerIn (hd.heap_39 P) 917 (Str.ofString "count") = some (some (Value.ref 918))) ∧
    (takerIn (hd.heap_39 P) 917 (Str.ofString "keys") = some (some (Value.ref 919))) ∧
    (slotIn (hd.heap_39 P) 918 917 = some 0) ∧
    (specialIn (hd.heap_39 P) (Value.ref 918) (Str.ofString "__get__") = some (some (Value.builtin "member_descriptor.__get__"))) ∧
    (takesIn (hd.heap_39 P) (Value.ref 918) = some true) ∧
    (typeIn (hd.heap_39 P) (Value.ref 918) = some (Value.type "member_descriptor")) ∧
    (slotIn (hd.heap_39 P) 919 917 = some 1) ∧
    (specialIn (hd.heap_39 P) (Value.ref 919) (Str.ofString "__get__") = some (some (Value.builtin "member_descriptor.__get__"))) ∧
    (takesIn (hd.heap_39 P) (Value.ref 919) = some true) ∧
    (typeIn (hd.heap_39 P) (Value.ref 919) = some (Value.type "member_descriptor")) := ⟨by k_is, by k_is, by k_is, by k_is, by k_is, by k_is, by k_is, by k_is, by k_is, by k_is, by k_is, by k_is, by k_is, by k_is, by k_is, by k_is, by k_is, by k_is, by k_is, by k_is, by k_is, by k_is, by k_is, by k_is, by k_is, by k_is, by k_is, by k_is, by k_is, by k_is⟩
theorem kf16 (P : Params) : codeIn (hd.heap_39 P) (Value.ref 912) (Str.ofString "LFUCache._Link.unlink") = true := (kfs5 P).1
theorem kf109 (P : Params) : isFn (hd.heap_39 P) (Value.ref 913) = true := (kfs5 P).2.1
theorem kf32 (P : Params) : findIn (hd.heap_39 P) (Value.ref 917) (Str.ofString "__setattr__") = some (some (Value.builtin "object.__setattr__")) := (kfs5 P).2.2.1
theorem kf33 (P : Params) : findIn (hd.heap_39 P) (Value.ref 917) (Str.ofString "keys") = some (some (Value.ref 919)) := (kfs5 P).2.2.2.1
theorem kf35 (P : Params) : findIn (hd.heap_39 P) (Value.ref 917) (Str.ofString "next") = some (some (Value.ref 920)) := (kfs5 P).2.2.2.2.1
theorem kf36 (P : Params) : findIn (hd.heap_39 P) (Value.ref 917) (Str.ofString "count") = some (some (Value.ref 918)) := (kfs5 P).2.2.2.2.2.1
theorem kf48 (P : Params) : findIn (hd.heap_39 P) (Value.ref 917) (Str.ofString "__init__") = some (some (Value.ref 906)) := (kfs5 P).2.2.2.2.2.2.1
theorem kf62 (P : Params) : findIn (hd.heap_39 P) (Value.ref 917) (Str.ofString "prev") = some (some (Value.ref 921)) := (kfs5 P).2.2.2.2.2.2.2.1
theorem kf68 (P : Params) : findIn (hd.heap_39 P) (Value.ref 917) (Str.ofString "unlink") = some (some (Value.ref 913)) := (kfs5 P).2.2.2.2.2.2.2.2.1
theorem kf95 (P : Params) : hasDictIn (hd.heap_39 P) 917 = false := (kfs5 P).2.2.2.2.2.2.2.2.2.1
theorem kf99 (P : Params) : isClsIn (hd.heap_39 P) 917 = true := (kfs5 P).2.2.2.2.2.2.2.2.2.2.1
theorem kf129 (P : Params) : makesIn (hd.heap_39 P) 917 = true := (kfs5 P).2.2.2.2.2.2.2.2.2.2.2.1
theorem kf163 (P : Params) : plainGet (hd.heap_39 P) 917 (Str.ofString "keys") = true := (kfs5 P).2.2.2.2.2.2.2.2.2.2.2.2.1
theorem kf164 (P : Params) : plainGet (hd.heap_39 P) 917 (Str.ofString "next") = true := (kfs5 P).2.2.2.2.2.2.2.2.2.2.2.2.2.1
theorem kf165 (P : Params) : plainGet (hd.heap_39 P) 917 (Str.ofString "count") = true := (kfs5 P).2.2.2.2.2.2.2.2.2.2.2.2.2.2.1
theorem kf170 (P : Params) : plainGet (hd.heap_39 P) 917 (Str.ofString "prev") = true := (kfs5 P).2.2.2.2.2.2.2.2.2.2.2.2.2.2.2.1
theorem kf188 (P : Params) : plainGet (hd.heap_39 P) 917 (Str.ofString "unlink") = true := (kfs5 P).2.2.2.2.2.2.2.2.2.2.2.2.2.2.2.2.1
theorem kf198 (P : Params) : plainOver (hd.heap_39 P) 917 = true := (kfs5 P).2.2.2.2.2.2.2.2.2.2.2.2.2.2.2.2.2.1
theorem kf218 (P : Params) : takerIn (hd.heap_39 P) 917 (Str.ofString "prev") = some (some (Value.ref 921)) := (kfs5 P).2.2.2.2.2.2.2.2.2.2.2.2.2.2.2.2.2.2.1
theorem kf219 (P : Params) : takerIn (hd.heap_39 P) 917 (Str.ofString "next") = some (some (Value.ref 920)) := (kfs5 P).2.2.2.2.2.2.2.2.2.2.2.2.2.2.2.2.2.2.2.1
theorem kf223 (P : Params) : takerIn (hd.heap_39 P) 917 (Str.ofString "count") = some (some (Value.ref 918)) := (kfs5 P).2.2.2.2.2.2.2.2.2.2.2.2.2.2.2.2.2.2.2.2.1
theorem kf224 (P : Params) : takerIn (hd.heap_39 P) 917 (Str.ofString "keys") = some (some (Value.ref 919)) := (kfs5 P).2.2.2.2.2.2.2.2.2.2.2.2.2.2.2.2.2.2.2.2.2.1
theorem kf207 (P : Params) : slotIn (hd.heap_39 P) 918 917 = some 0 := (kfs5 P).2.2.2.2.2.2.2.2.2.2.2.2.2.2.2.2.2.2.2.2.2.2.1
theorem kf211 (P : Params) : specialIn (hd.heap_39 P) (Value.ref 918) (Str.ofString "__get__") = some (some (Value.builtin "member_descriptor.__get__")) := (kfs5 P).2.2.2.2.2.2.2.2.2.2.2.2.2.2.2.2.2.2.2.2.2.2.2.1
theorem kf237 (P : Params) : takesIn (hd.heap_39 P) (Value.ref 918) = some true := (kfs5 P).2.2.2.2.2.2.2.2.2.2.2.2.2.2.2.2.2.2.2.2.2.2.2.2.1
theorem kf244 (P : Params) : typeIn (hd.heap_39 P) (Value.ref 918) = some (Value.type "member_descriptor") := (kfs5 P).2.2.2.2.2.2.2.2.2.2.2.2.2.2.2.2.2.2.2.2.2.2.2.2.2.1
theorem kf206 (P : Params) : slotIn (hd.heap_39 P) 919 917 = some 1 := (kfs5 P).2.2.2.2.2.2.2.2.2.2.2.2.2.2.2.2.2.2.2.2.2.2.2.2.2.2.1
theorem kf209 (P : Params) : specialIn (hd.heap_39 P) (Value.ref 919) (Str.ofString "__get__") = some (some (Value.builtin "member_descriptor.__get__")) := (kfs5 P).2.2.2.2.2.2.2.2.2.2.2.2.2.2.2.2.2.2.2.2.2.2.2.2.2.2.2.1
theorem kf235 (P : Params) : takesIn (hd.heap_39 P) (Value.ref 919) = some true := (kfs5 P).2.2.2.2.2.2.2.2.2.2.2.2.2.2.2.2.2.2.2.2.2.2.2.2.2.2.2.2.1
theorem kf245 (P : Params) : typeIn (hd.heap_39 P) (Value.ref 919) = some (Value.type "member_descriptor") := (kfs5 P).2.2.2.2.2.2.2.2.2.2.2.2.2.2.2.2.2.2.2.2.2.2.2.2.2.2.2.2.2
theorem kfs6 (P : Params) : (slotIn (hd.heap_39 P) 920 917 = some 2) ∧
    (specialIn (hd.heap_39 P) (Value.ref 920) (Str.ofString "__get__") = some (some (Value.builtin "member_descriptor.__get__"))) ∧
    (takesIn (hd.heap_39 P) (Value.ref 920) = some true) ∧
    (typeIn (hd.heap_39 P) (Value.ref 920) = some (Value.type "member_descriptor")) ∧
    (slotIn (hd.heap_39 P) 921 917 = some 3) ∧
    (specialIn (hd.heap_39 P) (Value.ref 921) (Str.ofString "__get__") = some (some (Value.builtin "member_descriptor.__get__"))) ∧
    (takesIn (hd.heap_39 P) (Value.ref 921) = some true) ∧
    (typeIn (hd.heap_39 P) (Value.ref 921) = some (Value.type "member_descriptor")) ∧
    (codeIn (hd.heap_39 P) (Value.ref 930) (Str.ofString "LFUCache.__init__") = true) ∧
    (isFn (hd.heap_39 P) (Value.ref 931) = true) ∧
    (codeIn (hd.heap_39 P) (Value.ref 938) (Str.ofString "LFUCache.__getitem__") = true) ∧
    (fnIn (hd.heap_39 P) 939 = true) ∧
    (isFn (hd.heap_39 P) (Value.ref 939) = true) ∧
    (codeIn (hd.heap_39 P) (Value.ref 946) (Str.ofString "LFUCache.__setitem__") = true) ∧
    (codeIn (hd.heap_39 P) (Value.ref 954) (Str.ofString "LFUCache.__delitem__") = true) ∧
    (isFn (hd.heap_39 P) (Value.ref 955) = true) ∧
    (codeIn (hd.heap_39 P) (Value.ref 961) (Str.ofString "LFUCache.popitem") = true) ∧
    (isFn (hd.heap_39 P) (Value.ref 962) = true) ∧
    (makesIn (hd.heap_39 P) 962 = false) ∧
    (codeIn (hd.heap_39 P) (Value.ref 975) (Str.ofString "LFUCache.__touch") = true) ∧
    (isFn (hd.heap_39 P) (Value.ref 976) = true) ∧
    (makesIn (hd.heap_39 P) 976 = false) ∧
    (findCls (hd.heap_39 P) (Value.ref 979) (Value.ref 89) (Str.ofString "_Link") = some (CFound.val (Value.ref 917))) ∧
    (findIn (hd.heap_39 P) (Value.ref 979) (Str.ofString "_LFUCache__links") = some none) ∧
    (findIn (hd.heap_39 P) (Value.ref 979) (Str.ofString "_Cache__data") = some none) ∧
    (findIn (hd.heap_39 P) (Value.ref 979) (Str.ofString "_Cache__size") = some (some Value.none)) ∧
    (findIn (hd.heap_39 P) (Value.ref 979) (Str.ofString "_Cache__currsize") = some none) ∧
    (findIn (hd.heap_39 P) (Value.ref 979) (Str.ofString "__setattr__") = some (some (Value.builtin "object.__setattr__"))) ∧
    (findIn (hd.heap_39 P) (Value.ref 979) (Str.ofString "_LFUCache__root") = some none) ∧
    (findIn (hd.heap_39 P) (Value.ref 979) (Str.ofString "__contains__") = some (some (Value.ref 749))) := ⟨by k_is, by k_is, by k_is, by k_is, by k_is, by k_is, by k_is, by k_is, by k_is, by k_is, by k_is, by k_is, by k_is, by k_is, by k_is, by k_is, by k_is, by k_is, by k_is, by k_is, by k_is, by k_is, by k_is, by k_is, by k_is, by k_is, by k_is, by k_is, by k_is, by k_is⟩
theorem kf205 (P : Params) : slotIn (hd.heap_39 P) 920 917 = some 2 := (kfs6 P).1
theorem kf210 (P : Params) : specialIn (hd.heap_39 P) (Value.ref 920) (Str.ofString "__get__") = some (some (Value.builtin "member_descriptor.__get__")) := (kfs6 P).2.1
theorem kf236 (P : Params) : takesIn (hd.heap_39 P) (Value.ref 920) = some true := (kfs6 P).2.2.1
theorem kf242 (P : Params) : typeIn (hd.heap_39 P) (Value.ref 920) = some (Value.type "member_descriptor") := (kfs6 P).2.2.2.1
theorem kf208 (P : Params) : slotIn (hd.heap_39 P) 921 917 = some 3 := (kfs6 P).2.2.2.2.1
theorem kf217 (P : Params) : specialIn (hd.heap_39 P) (Value.ref 921) (Str.ofString "__get__") = some (some (Value.builtin "member_descriptor.__get__")) := (kfs6 P).2.2.2.2.2.1
theorem kf239 (P : Params) : takesIn (hd.heap_39 P) (Value.ref 921) = some true := (kfs6 P).2.2.2.2.2.2.1
theorem kf241 (P : Params) : typeIn (hd.heap_39 P) (Value.ref 921) = some (Value.type "member_descriptor") := (kfs6 P).2.2.2.2.2.2.2.1
theorem kf24 (P : Params) : codeIn (hd.heap_39 P) (Value.ref 930) (Str.ofString "LFUCache.__init__") = true := (kfs6 P).2.2.2.2.2.2.2.2.1
theorem kf120 (P : Params) : isFn (hd.heap_39 P) (Value.ref 931) = true := (kfs6 P).2.2.2.2.2.2.2.2.2.1
theorem kf26 (P : Params) : codeIn (hd.heap_39 P) (Value.ref 938) (Str.ofString "LFUCache.__getitem__") = true := (kfs6 P).2.2.2.2.2.2.2.2.2.2.1
theorem kf93 (P : Params) : fnIn (hd.heap_39 P) 939 = true := (kfs6 P).2.2.2.2.2.2.2.2.2.2.2.1
theorem kf110 (P : Params) : isFn (hd.heap_39 P) (Value.ref 939) = true := (kfs6 P).2.2.2.2.2.2.2.2.2.2.2.2.1
theorem kf5 (P : Params) : codeIn (hd.heap_39 P) (Value.ref 946) (Str.ofString "LFUCache.__setitem__") = true := (kfs6 P).2.2.2.2.2.2.2.2.2.2.2.2.2.1
theorem kf14 (P : Params) : codeIn (hd.heap_39 P) (Value.ref 954) (Str.ofString "LFUCache.__delitem__") = true := (kfs6 P).2.2.2.2.2.2.2.2.2.2.2.2.2.2.1
theorem kf117 (P : Params) : isFn (hd.heap_39 P) (Value.ref 955) = true := (kfs6 P).2.2.2.2.2.2.2.2.2.2.2.2.2.2.2.1
theorem kf27 (P : Params) : codeIn (hd.heap_39 P) (Value.ref 961) (Str.ofString "LFUCache.popitem") = true := (kfs6 P).2.2.2.2.2.2.2.2.2.2.2.2.2.2.2.2.1
theorem kf111 (P : Params) : isFn (hd.heap_39 P) (Value.ref 962) = true := (kfs6 P).2.2.2.2.2.2.2.2.2.2.2.2.2.2.2.2.2.1
theorem kf130 (P : Params) : makesIn (hd.heap_39 P) 962 = false := (kfs6 P).2.2.2.2.2.2.2.2.2.2.2.2.2.2.2.2.2.2.1
theorem kf4 (P : Params) : codeIn (hd.heap_39 P) (Value.ref 975) (Str.ofString "LFUCache.__touch") = true := (kfs6 P).2.2.2.2.2.2.2.2.2.2.2.2.2.2.2.2.2.2.2.1
theorem kf116 (P : Params) : isFn (hd.heap_39 P) (Value.ref 976) = true := (kfs6 P).2.2.2.2.2.2.2.2.2.2.2.2.2.2.2.2.2.2.2.2.1
theorem kf139 (P : Params) : makesIn (hd.heap_39 P) 976 = false := (kfs6 P).2.2.2.2.2.2.2.2.2.2.2.2.2.2.2.2.2.2.2.2.2.1
theorem kf29 (P : Params) : findCls (hd.heap_39 P) (Value.ref 979) (Value.ref 89) (Str.ofString "_Link") = some (CFound.val (Value.ref 917)) := (kfs6 P).2.2.2.2.2.2.2.2.2.2.2.2.2.2.2.2.2.2.2.2.2.2.1
theorem kf34 (P : Params) : findIn (hd.heap_39 P) (Value.ref 979) (Str.ofString "_LFUCache__links") = some none := (kfs6 P).2.2.2.2.2.2.2.2.2.2.2.2.2.2.2.2.2.2.2.2.2.2.2.1
theorem kf43 (P : Params) : findIn (hd.heap_39 P) (Value.ref 979) (Str.ofString "_Cache__data") = some none := (kfs6 P).2.2.2.2.2.2.2.2.2.2.2.2.2.2.2.2.2.2.2.2.2.2.2.2.1
theorem kf44 (P : Params) : findIn (hd.heap_39 P) (Value.ref 979) (Str.ofString "_Cache__size") = some (some Value.none) := (kfs6 P).2.2.2.2.2.2.2.2.2.2.2.2.2.2.2.2.2.2.2.2.2.2.2.2.2.1
theorem kf47 (P : Params) : findIn (hd.heap_39 P) (Value.ref 979) (Str.ofString "_Cache__currsize") = some none := (kfs6 P).2.2.2.2.2.2.2.2.2.2.2.2.2.2.2.2.2.2.2.2.2.2.2.2.2.2.1
theorem kf49 (P : Params) : findIn (hd.heap_39 P) (Value.ref 979) (Str.ofString "__setattr__") = some (some (Value.builtin "object.__setattr__")) := (kfs6 P).2.2.2.2.2.2.2.2.2.2.2.2.2.2.2.2.2.2.2.2.2.2.2.2.2.2.2.1
theorem kf50 (P : Params) : findIn (hd.heap_39 P) (Value.ref 979) (Str.ofString "_LFUCache__root") = some none := (kfs6 P).2.2.2.2.2.2.2.2.2.2.2.2.2.2.2.2.2.2.2.2.2.2.2.2.2.2.2.2.1
theorem kf54 (P : Params) : findIn (hd.heap_39 P) (Value.ref 979) (Str.ofString "__contains__") = some (some (Value.ref 749)) := (kfs6 P).2.2.2.2.2.2.2.2.2.2.2.2.2.2.2.2.2.2.2.2.2.2.2.2.2.2.2.2.2
theorem kfs7 (P : Params) : (findIn (hd.heap_39 P) (Value.ref 979) (Str.ofString "_Cache__maxsize") = some none) ∧
    (findIn (hd.heap_39 P) (Value.ref 979) (Str.ofString "_Cache__marker") = some (some (Value.ref 706))) ∧
    (findIn (hd.heap_39 P) (Value.ref 979) (Str.ofString "__getitem__") = some (some (Value.ref 939))) ∧
    (findIn (hd.heap_39 P) (Value.ref 979) (Str.ofString "popitem") = some (some (Value.ref 962))) ∧
    (findIn (hd.heap_39 P) (Value.ref 979) (Str.ofString "_LFUCache__touch") = some (some (Value.ref 976))) ∧
    (findIn (hd.heap_39 P) (Value.ref 979) (Str.ofString "__delitem__") = some (some (Value.ref 955))) ∧
    (findIn (hd.heap_39 P) (Value.ref 979) (Str.ofString "__len__") = some (some (Value.ref 770))) ∧
    (findIn (hd.heap_39 P) (Value.ref 979) (Str.ofString "get") = some (some (Value.ref 778))) ∧
    (findIn (hd.heap_39 P) (Value.ref 979) (Str.ofString "getsizeof") = some (some (Value.ref 826))) ∧
    (findIn (hd.heap_39 P) (Value.ref 979) (Str.ofString "__init__") = some (some (Value.ref 931))) ∧
    (findIn (hd.heap_39 P) (Value.ref 979) (Str.ofString "__iter__") = some (some (Value.ref 763))) ∧
    (hasDictIn (hd.heap_39 P) 979 = true) ∧
    (makesIn (hd.heap_39 P) 979 = true) ∧
    (noSeq (hd.heap_39 P) 979 = true) ∧
    (plainGet (hd.heap_39 P) 979 (Str.ofString "_LFUCache__links") = true) ∧
    (plainGet (hd.heap_39 P) 979 (Str.ofString "_Cache__size") = true) ∧
    (plainGet (hd.heap_39 P) 979 (Str.ofString "_Cache__data") = true) ∧
    (plainGet (hd.heap_39 P) 979 (Str.ofString "_Cache__currsize") = true) ∧
    (plainGet (hd.heap_39 P) 979 (Str.ofString "_LFUCache__root") = true) ∧
    (plainGet (hd.heap_39 P) 979 (Str.ofString "_Cache__marker") = true) ∧
    (plainGet (hd.heap_39 P) 979 (Str.ofString "_Cache__maxsize") = true) ∧
    (plainGet (hd.heap_39 P) 979 (Str.ofString "popitem") = true) ∧
    (plainGet (hd.heap_39 P) 979 (Str.ofString "_LFUCache__touch") = true) ∧
    (plainGet (hd.heap_39 P) 979 (Str.ofString "get") = true) ∧
    (plainGet (hd.heap_39 P) 979 (Str.ofString "getsizeof") = true) ∧
    (plainOver (hd.heap_39 P) 979 = true) ∧
    (readsIn (hd.heap_39 P) 979 (Value.ref 89) = true) ∧
    (specialIn (hd.heap_39 P) (Value.ref 979) (Str.ofString "__getattribute__") = some (some (Value.builtin "type.__getattribute__"))) ∧
    (takerIn (hd.heap_39 P) 979 (Str.ofString "_Cache__currsize") = some none) ∧
    (takerIn (hd.heap_39 P) 979 (Str.ofString "_Cache__data") = some none) := ⟨by k_is, by k_is, by k_is, by k_is, by k_is, by k_is, by k_is, by k_is, by k_is, by k_is, by k_is, by k_is, by k_is, by k_is, by k_is, by k_is, by k_is, by k_is, by k_is, by k_is, by k_is, by k_is, by k_is, by k_is, by k_is, by k_is, by k_is, by k_is, by k_is, by k_is⟩
theorem kf57 (P : Params) : findIn (hd.heap_39 P) (Value.ref 979) (Str.ofString "_Cache__maxsize") = some none := (kfs7 P).1
theorem kf63 (P : Params) : findIn (hd.heap_39 P) (Value.ref 979) (Str.ofString "_Cache__marker") = some (some (Value.ref 706)) := (kfs7 P).2.1
theorem kf69 (P : Params) : findIn (hd.heap_39 P) (Value.ref 979) (Str.ofString "__getitem__") = some (some (Value.ref 939)) := (kfs7 P).2.2.1
theorem kf70 (P : Params) : findIn (hd.heap_39 P) (Value.ref 979) (Str.ofString "popitem") = some (some (Value.ref 962)) := (kfs7 P).2.2.2.1
theorem kf75 (P : Params) : findIn (hd.heap_39 P) (Value.ref 979) (Str.ofString "_LFUCache__touch") = some (some (Value.ref 976)) := (kfs7 P).2.2.2.2.1
theorem kf76 (P : Params) : findIn (hd.heap_39 P) (Value.ref 979) (Str.ofString "__delitem__") = some (some (Value.ref 955)) := (kfs7 P).2.2.2.2.2.1
theorem kf77 (P : Params) : findIn (hd.heap_39 P) (Value.ref 979) (Str.ofString "__len__") = some (some (Value.ref 770)) := (kfs7 P).2.2.2.2.2.2.1
theorem kf79 (P : Params) : findIn (hd.heap_39 P) (Value.ref 979) (Str.ofString "get") = some (some (Value.ref 778)) := (kfs7 P).2.2.2.2.2.2.2.1
theorem kf82 (P : Params) : findIn (hd.heap_39 P) (Value.ref 979) (Str.ofString "getsizeof") = some (some (Value.ref 826)) := (kfs7 P).2.2.2.2.2.2.2.2.1
theorem kf85 (P : Params) : findIn (hd.heap_39 P) (Value.ref 979) (Str.ofString "__init__") = some (some (Value.ref 931)) := (kfs7 P).2.2.2.2.2.2.2.2.2.1
theorem kf87 (P : Params) : findIn (hd.heap_39 P) (Value.ref 979) (Str.ofString "__iter__") = some (some (Value.ref 763)) := (kfs7 P).2.2.2.2.2.2.2.2.2.2.1
theorem kf96 (P : Params) : hasDictIn (hd.heap_39 P) 979 = true := (kfs7 P).2.2.2.2.2.2.2.2.2.2.2.1
theorem kf143 (P : Params) : makesIn (hd.heap_39 P) 979 = true := (kfs7 P).2.2.2.2.2.2.2.2.2.2.2.2.1
theorem kf149 (P : Params) : noSeq (hd.heap_39 P) 979 = true := (kfs7 P).2.2.2.2.2.2.2.2.2.2.2.2.2.1
theorem kf166 (P : Params) : plainGet (hd.heap_39 P) 979 (Str.ofString "_LFUCache__links") = true := (kfs7 P).2.2.2.2.2.2.2.2.2.2.2.2.2.2.1
theorem kf169 (P : Params) : plainGet (hd.heap_39 P) 979 (Str.ofString "_Cache__size") = true := (kfs7 P).2.2.2.2.2.2.2.2.2.2.2.2.2.2.2.1
theorem kf175 (P : Params) : plainGet (hd.heap_39 P) 979 (Str.ofString "_Cache__data") = true := (kfs7 P).2.2.2.2.2.2.2.2.2.2.2.2.2.2.2.2.1
theorem kf178 (P : Params) : plainGet (hd.heap_39 P) 979 (Str.ofString "_Cache__currsize") = true := (kfs7 P).2.2.2.2.2.2.2.2.2.2.2.2.2.2.2.2.2.1
theorem kf182 (P : Params) : plainGet (hd.heap_39 P) 979 (Str.ofString "_LFUCache__root") = true := (kfs7 P).2.2.2.2.2.2.2.2.2.2.2.2.2.2.2.2.2.2.1
theorem kf183 (P : Params) : plainGet (hd.heap_39 P) 979 (Str.ofString "_Cache__marker") = true := (kfs7 P).2.2.2.2.2.2.2.2.2.2.2.2.2.2.2.2.2.2.2.1
theorem kf189 (P : Params) : plainGet (hd.heap_39 P) 979 (Str.ofString "_Cache__maxsize") = true := (kfs7 P).2.2.2.2.2.2.2.2.2.2.2.2.2.2.2.2.2.2.2.2.1
theorem kf190 (P : Params) : plainGet (hd.heap_39 P) 979 (Str.ofString "popitem") = true := (kfs7 P).2.2.2.2.2.2.2.2.2.2.2.2.2.2.2.2.2.2.2.2.2.1
theorem kf192 (P : Params) : plainGet (hd.heap_39 P) 979 (Str.ofString "_LFUCache__touch") = true := (kfs7 P).2.2.2.2.2.2.2.2.2.2.2.2.2.2.2.2.2.2.2.2.2.2.1
theorem kf193 (P : Params) : plainGet (hd.heap_39 P) 979 (Str.ofString "get") = true := (kfs7 P).2.2.2.2.2.2.2.2.2.2.2.2.2.2.2.2.2.2.2.2.2.2.2.1
theorem kf196 (P : Params) : plainGet (hd.heap_39 P) 979 (Str.ofString "getsizeof") = true := (kfs7 P).2.2.2.2.2.2.2.2.2.2.2.2.2.2.2.2.2.2.2.2.2.2.2.2.1
theorem kf199 (P : Params) : plainOver (hd.heap_39 P) 979 = true := (kfs7 P).2.2.2.2.2.2.2.2.2.2.2.2.2.2.2.2.2.2.2.2.2.2.2.2.2.1
theorem kf203 (P : Params) : readsIn (hd.heap_39 P) 979 (Value.ref 89) = true := (kfs7 P).2.2.2.2.2.2.2.2.2.2.2.2.2.2.2.2.2.2.2.2.2.2.2.2.2.2.1
theorem kf215 (P : Params) : specialIn (hd.heap_39 P) (Value.ref 979) (Str.ofString "__getattribute__") = some (some (Value.builtin "type.__getattribute__")) := (kfs7 P).2.2.2.2.2.2.2.2.2.2.2.2.2.2.2.2.2.2.2.2.2.2.2.2.2.2.2.1
theorem kf222 (P : Params) : takerIn (hd.heap_39 P) 979 (Str.ofString "_Cache__currsize") = some none := (kfs7 P).2.2.2.2.2.2.2.2.2.2.2.2.2.2.2.2.2.2.2.2.2.2.2.2.2.2.2.2.1
theorem kf229 (P : Params) : takerIn (hd.heap_39 P) 979 (Str.ofString "_Cache__data") = some none := (kfs7 P).2.2.2.2.2.2.2.2.2.2.2.2.2.2.2.2.2.2.2.2.2.2.2.2.2.2.2.2.2
theorem kfs8 (P : Params) : (takerIn (hd.heap_39 P) 979 (Str.ofString "_Cache__maxsize") = some none) ∧
    (takerIn (hd.heap_39 P) 979 (Str.ofString "_LFUCache__root") = some none) ∧
    (takerIn (hd.heap_39 P) 979 (Str.ofString "_LFUCache__links") = some none) ∧
    (typeIn (hd.heap_39 P) (Value.ref 979) = some (Value.ref 89)) ∧
    (codeIn (hd.heap_39 P) (Value.ref 995) (Str.ofString "LRUCache.__init__") = true) ∧
    (isFn (hd.heap_39 P) (Value.ref 996) = true) := ⟨by k_is, by k_is, by k_is, by k_is, by k_is, by k_is⟩
theorem kf230 (P : Params) : takerIn (hd.heap_39 P) 979 (Str.ofString "_Cache__maxsize") = some none := (kfs8 P).1
theorem kf233 (P : Params) : takerIn (hd.heap_39 P) 979 (Str.ofString "_LFUCache__root") = some none := (kfs8 P).2.1
theorem kf234 (P : Params) : takerIn (hd.heap_39 P) 979 (Str.ofString "_LFUCache__links") = some none := (kfs8 P).2.2.1
theorem kf243 (P : Params) : typeIn (hd.heap_39 P) (Value.ref 979) = some (Value.ref 89) := (kfs8 P).2.2.2.1
theorem kf22 (P : Params) : codeIn (hd.heap_39 P) (Value.ref 995) (Str.ofString "LRUCache.__init__") = true := (kfs8 P).2.2.2.2.1
theorem kf118 (P : Params) : isFn (hd.heap_39 P) (Value.ref 996) = true := (kfs8 P).2.2.2.2.2
local macro_rules | `(tactic| k_is) => `(tactic| first | ((with_reducible show findIn _ (Value.ref 917) _ = _); with_reducible (first | exact kf32 _ | exact kf33 _ | exact kf35 _ | exact kf36 _ | exact kf48 _ | exact kf62 _ | exact kf68 _)) | ((with_reducible show findIn _ (Value.ref 979) _ = _); with_reducible (first | exact kf34 _ | exact kf43 _ | exact kf44 _ | exact kf47 _ | exact kf49 _ | exact kf50 _ | exact kf54 _ | exact kf57 _ | exact kf63 _ | exact kf69 _ | exact kf70 _ | exact kf75 _ | exact kf76 _ | exact kf77 _ | exact kf79 _ | exact kf82 _ | exact kf85 _ | exact kf87 _)) | ((with_reducible show findIn _ (Value.ref 882) _ = _); with_reducible (first | exact kf37 _ | exact kf41 _ | exact kf42 _ | exact kf46 _ | exact kf53 _ | exact kf56 _ | exact kf58 _ | exact kf61 _ | exact kf67 _ | exact kf73 _ | exact kf74 _ | exact kf78 _ | exact kf81 _ | exact kf84 _ | exact kf88 _ | exact kf90 _)) | ((with_reducible show findIn _ (Value.ref 1044) _ = _); with_reducible (first | exact kf38 _ | exact kf39 _ | exact kf40 _ | exact kf45 _ | exact kf51 _ | exact kf52 _ | exact kf55 _ | exact kf59 _ | exact kf60 _ | exact kf64 _ | exact kf65 _ | exact kf66 _ | exact kf71 _ | exact kf72 _ | exact kf80 _ | exact kf83 _ | exact kf86 _ | exact kf89 _ | exact kf91 _)) | ((with_reducible show plainGet _ 917 _ = _); with_reducible (first | exact kf163 _ | exact kf164 _ | exact kf165 _ | exact kf170 _ | exact kf188 _)) | ((with_reducible show plainGet _ 979 _ = _); with_reducible (first | exact kf166 _ | exact kf169 _ | exact kf175 _ | exact kf178 _ | exact kf182 _ | exact kf183 _ | exact kf189 _ | exact kf190 _ | exact kf192 _ | exact kf193 _ | exact kf196 _)) | ((with_reducible show plainGet _ 1044 _ = _); with_reducible (first | exact kf167 _ | exact kf172 _ | exact kf173 _ | exact kf176 _ | exact kf179 _ | exact kf180 _ | exact kf184 _ | exact kf185 _ | exact kf191 _ | exact kf194 _ | exact kf197 _)) | ((with_reducible show plainGet _ 882 _ = _); with_reducible (first | exact kf168 _ | exact kf171 _ | exact kf174 _ | exact kf177 _ | exact kf181 _ | exact kf186 _ | exact kf187 _ | exact kf195 _)) | ((with_reducible show hasDictIn _ _ = _); with_reducible (first | exact kf95 _ | exact kf96 _ | exact kf97 _ | exact kf98 _)) | ((with_reducible show makesIn _ _ = _); with_reducible (first | exact kf124 _ | exact kf125 _ | exact kf126 _ | exact kf127 _ | exact kf128 _ | exact kf129 _ | exact kf130 _ | exact kf131 _ | exact kf132 _ | exact kf133 _ | exact kf134 _ | exact kf135 _ | exact kf136 _ | exact kf137 _ | exact kf138 _ | exact kf139 _ | exact kf140 _ | exact kf141 _ | exact kf142 _ | exact kf143 _)) | ((with_reducible show noGet _ _ = _); with_reducible (first | exact kf144 _ | exact kf145 _ | exact kf146 _)) | ((with_reducible show nsIn _ _ _ = _); with_reducible (first | exact kf150 _ | exact kf151 _ | exact kf152 _ | exact kf153 _ | exact kf154 _ | exact kf155 _ | exact kf156 _ | exact kf157 _ | exact kf158 _ | exact kf159 _ | exact kf160 _ | exact kf161 _ | exact kf162 _)) | ((with_reducible show isFn _ (Value.ref 749)  = _); with_reducible (first | exact kf100 _)) | ((with_reducible show isFn _ (Value.ref 906)  = _); with_reducible (first | exact kf101 _)) | ((with_reducible show isFn _ (Value.ref 770)  = _); with_reducible (first | exact kf102 _)) | ((with_reducible show isFn _ (Value.ref 778)  = _); with_reducible (first | exact kf103 _)) | ((with_reducible show isFn _ (Value.ref 1027)  = _); with_reducible (first | exact kf104 _)) | ((with_reducible show isFn _ (Value.ref 1041)  = _); with_reducible (first | exact kf105 _)) | ((with_reducible show isFn _ (Value.ref 1004)  = _); with_reducible (first | exact kf106 _)) | ((with_reducible show isFn _ (Value.ref 706)  = _); with_reducible (first | exact kf107 _)) | ((with_reducible show isFn _ (Value.ref 872)  = _); with_reducible (first | exact kf108 _)) | ((with_reducible show isFn _ (Value.ref 913)  = _); with_reducible (first | exact kf109 _)) | ((with_reducible show isFn _ (Value.ref 939)  = _); with_reducible (first | exact kf110 _)) | ((with_reducible show isFn _ (Value.ref 962)  = _); with_reducible (first | exact kf111 _)) | ((with_reducible show isFn _ (Value.ref 763)  = _); with_reducible (first | exact kf112 _)) | ((with_reducible show isFn _ (Value.ref 1020)  = _); with_reducible (first | exact kf113 _)) | ((with_reducible show isFn _ (Value.ref 865)  = _); with_reducible (first | exact kf114 _)) | ((with_reducible show isFn _ (Value.ref 728)  = _); with_reducible (first | exact kf115 _)) | ((with_reducible show isFn _ (Value.ref 976)  = _); with_reducible (first | exact kf116 _)) | ((with_reducible show isFn _ (Value.ref 955)  = _); with_reducible (first | exact kf117 _)) | ((with_reducible show isFn _ (Value.ref 996)  = _); with_reducible (first | exact kf118 _)) | ((with_reducible show isFn _ (Value.ref 849)  = _); with_reducible (first | exact kf119 _)) | ((with_reducible show isFn _ (Value.ref 931)  = _); with_reducible (first | exact kf120 _)) | ((with_reducible show isFn _ (Value.ref 786)  = _); with_reducible (first | exact kf121 _)) | ((with_reducible show isFn _ (Value.ref 857)  = _); with_reducible (first | exact kf122 _)) | ((with_reducible show isFn _ (Value.ref 1012)  = _); with_reducible (first | exact kf123 _)) | ((with_reducible show specialIn _ _ _ = _); with_reducible (first | exact kf209 _ | exact kf210 _ | exact kf211 _ | exact kf212 _ | exact kf213 _ | exact kf214 _ | exact kf215 _ | exact kf216 _ | exact kf217 _)) | ((with_reducible show codeIn _ (Value.ref 777) _ = _); with_reducible (first | exact kf0 _)) | ((with_reducible show codeIn _ (Value.ref 734) _ = _); with_reducible (first | exact kf1 _)) | ((with_reducible show codeIn _ (Value.ref 785) _ = _); with_reducible (first | exact kf2 _)) | ((with_reducible show codeIn _ (Value.ref 1052) _ = _); with_reducible (first | exact kf3 _)) | ((with_reducible show codeIn _ (Value.ref 975) _ = _); with_reducible (first | exact kf4 _)) | ((with_reducible show codeIn _ (Value.ref 946) _ = _); with_reducible (first | exact kf5 _)) | ((with_reducible show codeIn _ (Value.ref 748) _ = _); with_reducible (first | exact kf6 _)) | ((with_reducible show codeIn _ (Value.ref 727) _ = _); with_reducible (first | exact kf7 _)) | ((with_reducible show codeIn _ (Value.ref 741) _ = _); with_reducible (first | exact kf8 _)) | ((with_reducible show codeIn _ (Value.ref 769) _ = _); with_reducible (first | exact kf9 _)) | ((with_reducible show codeIn _ (Value.ref 762) _ = _); with_reducible (first | exact kf10 _)) | ((with_reducible show codeIn _ (Value.ref 1011) _ = _); with_reducible (first | exact kf11 _)) | ((with_reducible show codeIn _ (Value.ref 856) _ = _); with_reducible (first | exact kf12 _)) | ((with_reducible show codeIn _ (Value.ref 713) _ = _); with_reducible (first | exact kf13 _)) | ((with_reducible show codeIn _ (Value.ref 954) _ = _); with_reducible (first | exact kf14 _)) | ((with_reducible show codeIn _ (Value.ref 1040) _ = _); with_reducible (first | exact kf15 _)) | ((with_reducible show codeIn _ (Value.ref 912) _ = _); with_reducible (first | exact kf16 _)) | ((with_reducible show codeIn _ (Value.ref 1019) _ = _); with_reducible (first | exact kf17 _)) | ((with_reducible show codeIn _ (Value.ref 1026) _ = _); with_reducible (first | exact kf18 _)) | ((with_reducible show codeIn _ (Value.ref 1003) _ = _); with_reducible (first | exact kf19 _)) | ((with_reducible show codeIn _ (Value.ref 864) _ = _); with_reducible (first | exact kf20 _)) | ((with_reducible show codeIn _ (Value.ref 871) _ = _); with_reducible (first | exact kf21 _)) | ((with_reducible show codeIn _ (Value.ref 995) _ = _); with_reducible (first | exact kf22 _)) | ((with_reducible show codeIn _ (Value.ref 848) _ = _); with_reducible (first | exact kf23 _)) | ((with_reducible show codeIn _ (Value.ref 930) _ = _); with_reducible (first | exact kf24 _)) | ((with_reducible show codeIn _ (Value.ref 905) _ = _); with_reducible (first | exact kf25 _)) | ((with_reducible show codeIn _ (Value.ref 938) _ = _); with_reducible (first | exact kf26 _)) | ((with_reducible show codeIn _ (Value.ref 961) _ = _); with_reducible (first | exact kf27 _)) | ((with_reducible show slotIn _ _ _ = _); with_reducible (first | exact kf205 _ | exact kf206 _ | exact kf207 _ | exact kf208 _)) | ((with_reducible show plainOver _ _ = _); with_reducible (first | exact kf198 _ | exact kf199 _ | exact kf200 _ | exact kf201 _)) | ((with_reducible show takerIn _ 917 _ = _); with_reducible (first | exact kf218 _ | exact kf219 _ | exact kf223 _ | exact kf224 _)) | ((with_reducible show takerIn _ 1044 _ = _); with_reducible (first | exact kf220 _ | exact kf225 _ | exact kf226 _ | exact kf231 _)) | ((with_reducible show takerIn _ 882 _ = _); with_reducible (first | exact kf221 _ | exact kf227 _ | exact kf228 _ | exact kf232 _)) | ((with_reducible show takerIn _ 979 _ = _); with_reducible (first | exact kf222 _ | exact kf229 _ | exact kf230 _ | exact kf233 _ | exact kf234 _)) | ((with_reducible show takesIn _ _ = _); with_reducible (first | exact kf235 _ | exact kf236 _ | exact kf237 _ | exact kf238 _ | exact kf239 _)) | ((with_reducible show isClsIn _ _ = _); with_reducible (first | exact kf99 _)) | ((with_reducible show typeIn _ _ = _); with_reducible (first | exact kf240 _ | exact kf241 _ | exact kf242 _ | exact kf243 _ | exact kf244 _ | exact kf245 _)) | ((with_reducible show findCls _ _ _ _ = _); with_reducible (first | exact kf28 _ | exact kf29 _ | exact kf30 _ | exact kf31 _)) | ((with_reducible show readsIn _ _ _ = _); with_reducible (first | exact kf202 _ | exact kf203 _)) | ((with_reducible show fnIn _ _ = _); with_reducible (first | exact kf92 _ | exact kf93 _ | exact kf94 _)) | ((with_reducible show noSeq _ _ = _); with_reducible (first | exact kf147 _ | exact kf148 _ | exact kf149 _)) | ((with_reducible show recIn _ _ _ = _); with_reducible (first | exact kf204 _)))
section
open PySem.Sem (wp)
section
variable {M : Model} {A : Around} {E : Value → Shared → Prop} {env : Env} {rest : List Stmt} {Q : Flow → Shared → Prop}
theorem wp_execs_app {Γ : Ctx} {Qw : Flow → Pos → Shared → Prop} {Ew : Value → Pos → Shared → Prop} : ∀ (l : List Stmt) {p : Pos} {s : Shared},
    wp M Γ (execs l env) (fun f p' s' => match f with | .next => wp M Γ (execs rest env) Qw Ew p' s' | f => Qw f p' s') Ew p s → wp M Γ (execs (l ++ rest) env) Qw Ew p s
  | [], p, s, h => h
  | st :: l, p, s, h => by
    show wp M Γ (execs (st :: (l ++ rest)) env) Qw Ew p s
    rw [execs_cons, Sem.wp_bind'] at h ⊢
    refine Sem.wp_mono M Γ _ (fun f p' s' h' => ?_) (fun _ _ _ h' => h') _ _ h
    cases f with
    | next => exact wp_execs_app l h'
    | cont => exact h'
    | brk => exact h'
    | ret v => exact h'
theorem execs_app (l : List Stmt) {s : Shared} (h : wpAny M A (execs l env) (fun f s' => match f with | .next => wpAny M A (execs rest env) Q E s' | f => Q f s') E s) : wpAny M A (execs (l ++ rest) env) Q E s := fun Γ p hΓ => by
  refine wp_execs_app l (Sem.wp_mono M Γ _ (fun f p' s' h' => ?_) (fun _ _ _ h' => h') _ _ (h Γ p hΓ))
  cases f with
  | next => exact h' Γ p' hΓ
  | cont => exact h'
  | brk => exact h'
  | ret v => exact h'
/-- the first n statements, then the others -/
theorem execs_cut (n : Nat) {l : List Stmt} {s : Shared} (h : wpAny M A (execs (l.take n) env) (fun f s' => match f with | .next => wpAny M A (execs (l.drop n) env) Q E s' | f => Q f s') E s) : wpAny M A (execs l env) Q E s := by
  have := execs_app (rest := l.drop n) (l.take n) h
  rwa [List.take_append_drop] at this
end
section
variable {prog : Program} {w : World} {A : Around} {E : Value → Shared → Prop} {s : Shared} {env : Env} {h₀ : Heap} {x : Str} {body : List Stmt} {Q : Flow → Shared → Prop}
theorem iter_rangeJ {r : Addr} {a₀ b₀ c : Int} {t₀ u₀ v₀ : Tok} {n : Nat} {m₀ : Str → Option Value} {news : List (Addr × Obj)} (J : Nat → (Str → Option Value) → List (Addr × Obj) → Prop)
    (hh : A.handled = none) (hr : IsRange s.heap r a₀ b₀ c t₀ u₀ v₀) (hsmall : Builtin.Range.small a₀ b₀ c = true) (hn : Builtin.Range.rangeSize a₀ b₀ c = (n : Int)) (F : Fr h₀ env.locals s.heap m₀) (N : News h₀ env.locals s.heap news) (h0 : J 0 m₀ news)
    (turn : ∀ (i : Nat) (I : Addr) m₁ news₁ t h tk, i < n → J i m₁ news₁ → (∀ p ∈ news₁, p.1 ≠ I) → Fr h₀ env.locals h (fun y => if y = x then some (.int (a₀ + (i : Int) * c) t) else m₁ y) →
      News h₀ env.locals h ((I, krsIt (a₀ + ((i + 1 : Nat) : Int) * c) ((n : Int) - ((i + 1 : Nat) : Int)) c) :: news₁) →
      wpAny (model prog w) A (execs body env) (UnrPost h₀ env.locals { s with heap := h, toks := tk } I (krsIt (a₀ + ((i + 1 : Nat) : Int) * c) ((n : Int) - ((i + 1 : Nat) : Int)) c) (J (i + 1)) Q) E { s with heap := h, toks := tk })
    (done : ∀ m₁ news₁ h tk, J n m₁ news₁ → Fr h₀ env.locals h m₁ → News h₀ env.locals h news₁ → Q .next { s with heap := h, toks := tk }) :
    wpAny (model prog w) A (pyIter (.ref r)) (fun it s₂ => LoopAtV prog w A h₀ env x body Q E it s₂) E s := by
  refine wpAny_pyIter_range hr hsmall ?_
  have W : Walks prog w A s.heap.objs.size [s.heap.objs.size] [s.heap.objs.size] n (fun i v => i < n ∧ ∃ t, v = .int (a₀ + i * c) t)
      (fun i h => IsRangeIter h s.heap.objs.size (a₀ + (i : Nat) * c) ((n : Int) - (i : Nat)) c) := (Walks.range hh _ a₀ c n).bound
  have hnew := next_is_new F
  refine ⟨_, _, _, n, _, _, m₀, news, J, rfl, W, ?_, ?_, ?_, (by show IsRangeIter _ _ _ _ _; rw [hn]; simpa using Heap.get?_push_size _ rfl), F.push _, (fun p hp => ⟨Heap.get?_push_of_some _ (N p hp).1, (N p hp).2⟩), h0, ?_, ?_⟩
  · intro hm
    exact absurd F.ns.lt ((List.mem_singleton.mp hm) ▸ Nat.lt_irrefl _)
  · intro b hb
    rw [List.mem_singleton.mp hb]
    exact hnew
  · intro p hp hI
    exact absurd (Heap.lt_size (N p hp).1) ((List.mem_singleton.mp hI) ▸ Nat.lt_irrefl _)
  · rintro i v m₁ news₁ s₁ own ⟨hh', tk', rfl⟩ hin ⟨_, t, rfl⟩ hJ hoff hown hget hall hst F₁ N₁
    have hst' : hh'.get? s.heap.objs.size = some (krsIt (a₀ + ((i + 1 : Nat) : Int) * c) ((n : Int) - ((i + 1 : Nat) : Int)) c) := hst
    have hmem := hall s.heap.objs.size (List.mem_singleton.mpr rfl) hnew _ hst'
    have N₂ : News h₀ env.locals hh' ((s.heap.objs.size, krsIt (a₀ + ((i + 1 : Nat) : Int) * c) ((n : Int) - ((i + 1 : Nat) : Int)) c) :: news₁) := fun p hp => by
      rcases List.mem_cons.mp hp with rfl | hp
      · exact N₁ _ (List.mem_append_left _ hmem)
      · exact N₁ _ (List.mem_append_right _ hp)
    refine wpAny_mono (turn i s.heap.objs.size m₁ news₁ t hh' tk' hin hJ (fun p hp e => hoff p hp (List.mem_singleton.mpr e)) F₁ N₂) (fun f s₂ p => ?_) fun _ _ e => e
    have fin : UnrEnd h₀ env.locals { s with heap := hh', toks := tk' } s.heap.objs.size (krsIt (a₀ + ((i + 1 : Nat) : Int) * c) ((n : Int) - ((i + 1 : Nat) : Int)) c) (J (i + 1)) s₂ →
        LoopStepU h₀ env.locals [s.heap.objs.size] own (J (i + 1)) { s with heap := hh', toks := tk' } .next s₂ := by
      rintro ⟨h', tk, m', news', e, F', N', ho, r⟩
      refine ⟨rfl, h', tk, m', news', e, F', fun p hp => ?_, fun p hp hI => ho p hp (List.mem_singleton.mp hI), r⟩
      rcases List.mem_append.mp hp with hp | hp
      · have h1 : p.1 = s.heap.objs.size := List.mem_singleton.mp (hown p hp)
        have h2 : hh'.get? p.1 = some p.2 := hget p hp
        have h3 : p = (s.heap.objs.size, krsIt (a₀ + ((i + 1 : Nat) : Int) * c) ((n : Int) - ((i + 1 : Nat) : Int)) c) := by
          rw [h1, hst'] at h2
          exact Prod.ext h1 (Option.some.inj h2).symm
        rw [h3]; exact N' _ (List.mem_cons_self ..)
      · exact N' _ (List.mem_cons_of_mem _ hp)
    cases f with
    | ret v => exact .ret p
    | brk => exact .brk p
    | next => exact .next (fin p)
    | cont => exact .cont (fin p)
  · rintro h' tk m' news' F' N' _ hJ
    exact done m' news' h' tk hJ F' N'
theorem while_J {test : PySem.Expr} {pos : PySem.Pos} (hE : PassesOwn (model prog w) A env E) (J : Nat → Shared → Prop)
    (turn : ∀ n s₁, J n s₁ → wpAny (model prog w) A (isTrue test env (eval test env)) (fun b s₂ => WhlIf b (wpAny (model prog w) A (execs body env) (fun f s₃ => match f with
      | .next => ∃ n', n' < n ∧ J n' s₃ | .cont => ∃ n', n' < n ∧ J n' s₃ | .brk => Q .next s₃ | .ret v => Q (.ret v) s₃) E s₂) (Q .next s₂)) E s₁)
    {n : Nat} (h : J n s) : wpAny (model prog w) A (exec (.While test body [] pos) env) Q E s := by
  have all : ∀ n s₁, J n s₁ → WhlRest prog w A E env test body [] Q 0 s₁ := by
    intro n
    induction n using Nat.strongRecOn with
    | _ n ih =>
      intro s₁ h₁
      refine whl_turn (k := 0) hE (wpAny_mono (turn n s₁ h₁) (fun b s₂ h₂ => ?_) fun _ _ e => e)
      unfold WhlIf at h₂ ⊢
      split
      · rename_i hb
        rw [if_pos hb] at h₂
        refine wpAny_mono h₂ (fun f s₃ h₃ => ?_) fun _ _ e => e
        cases f with
        | next => obtain ⟨n', hn', hj⟩ := h₃; exact ih n' hn' s₃ hj
        | cont => obtain ⟨n', hn', hj⟩ := h₃; exact ih n' hn' s₃ hj
        | brk => exact h₃
        | ret v => exact h₃
      · rename_i hb
        rw [if_neg hb] at h₂
        exact wpAny_execs_nil h₂
  exact whl_start 0 (all n s h)
end
end
section
open PySem.Sem (wp)
section
variable {prog : Program} {w : World} {A : Around} {E : Value → Shared → Prop} {s : Shared}
theorem tupNext_item {it t : Addr} {i : Nat} {items : Array Value} {x : Value} {Q : Value → Shared → Prop} (hit : s.heap.IsTupleIter it t i)
    (ht : s.heap.IsTuple t items) (hx : items[i]? = some x)
    (hQ : ∀ h', h'.IsTupleIter it t (i + 1) → Heap.SameBut it s.heap h' → Q x { s with heap := h' }) :
    wpAny (model prog w) A (Builtin.SmallTypes.nextOf (.ref it)) Q E s := by
  obtain ⟨o, ho, hc, hd⟩ := id hit
  obtain ⟨ol, hol, _, nl, hdl⟩ := ht
  unfold Builtin.SmallTypes.nextOf
  refine wpAny_bind (wpAny_callSpecial?_slot (name := Str.ofString "__next__") hit.typeIs F.slot_tuple_iterator_next
    (wpAny_call_entry F.slot_tuple_iterator_next hit.typeIs F.entry_tuple_iterator_next ?_ (F.args_tuple_iterator_next_1 _)))
  show wpAny _ _ (field (.ref it) 0 >>= _) _ _ s
  refine wpAny_bind (wpAny_field ho hd (x := .ref t) rfl ?_)
  show wpAny _ _ (if (Value.ref t == Value.none) = true then _ else _) _ _ s
  rw [if_neg (show ¬ ((Value.ref t == Value.none) = true) from Bool.false_ne_true)]
  show wpAny _ _ (field (.ref it) 1 >>= _) _ _ s
  refine wpAny_bind (wpAny_field ho hd (x := .int i 0) rfl ?_)
  show wpAny _ _ (seqItems? (.ref t) >>= _) _ _ s
  refine wpAny_bind (wpAny_seqItems hol hdl ?_)
  simp only [Int.toNat_natCast, hx]
  refine wpAny_bind (wpAny_setField ho hd (by simp) (wpAny_pure ⟨x, rfl, wpAny_pure (hQ _ ?_ (Heap.SameBut.update ..))⟩))
  exact ⟨_, Heap.get?_update_self _ ho (Obj.isFreed_of_fields (Obj.data_mapFields hd _)), (Obj.cls_mapFields ..).trans hc, by
    rw [Obj.data_mapFields hd]; simp [rawInt]⟩
theorem tupNext_end {it t : Addr} {i : Nat} {items : Array Value} {Q : Value → Shared → Prop} (hh : A.handled = none)
    (hit : s.heap.IsTupleIter it t i) (ht : s.heap.IsTuple t items) (hx : items[i]? = none)
    (hE : ∀ h' e, Heap.ExtBut it s.heap h' → (∃ o, h'.get? e = some o ∧ o.cls = .type "StopIteration") → E (.ref e) { s with heap := h' }) :
    wpAny (model prog w) A (Builtin.SmallTypes.nextOf (.ref it)) Q E s := by
  obtain ⟨o, ho, hc, hd⟩ := id hit
  obtain ⟨ol, hol, _, nl, hdl⟩ := ht
  unfold Builtin.SmallTypes.nextOf
  refine wpAny_bind (wpAny_callSpecial?_slot (name := Str.ofString "__next__") hit.typeIs F.slot_tuple_iterator_next
    (wpAny_call_entry F.slot_tuple_iterator_next hit.typeIs F.entry_tuple_iterator_next ?_ (F.args_tuple_iterator_next_1 _)))
  show wpAny _ _ (field (.ref it) 0 >>= _) _ _ s
  refine wpAny_bind (wpAny_field ho hd (x := .ref t) rfl ?_)
  show wpAny _ _ (if (Value.ref t == Value.none) = true then _ else _) _ _ s
  rw [if_neg (show ¬ ((Value.ref t == Value.none) = true) from Bool.false_ne_true)]
  show wpAny _ _ (field (.ref it) 1 >>= _) _ _ s
  refine wpAny_bind (wpAny_field ho hd (x := .int i 0) rfl ?_)
  show wpAny _ _ (seqItems? (.ref t) >>= _) _ _ s
  refine wpAny_bind (wpAny_seqItems hol hdl ?_)
  simp only [Int.toNat_natCast, hx]
  refine wpAny_bind (wpAny_rule (wpAny_bind (wpAny_setField ho hd (by simp) ?_)))
  show wpAny _ _ (newExc (.type "StopIteration") [] >>= _) _ _ _
  refine wpAny_bind ?_
  simp only [newExc, newTuple]
  refine wpAny_bind (wpAny_newObj_type ?_ (by size_fits))
  refine wpAny_bind (m := firstArgMember _ _) (wpAny_of_eq (a := Value.none) (by first | rfl | (simp only [firstArgMember]; rfl)) ?_)
  refine wpAny_newObj_type ?_ (by size_fits)
  simp only [raiseNew]
  refine wpAny_bind (wpAny_handled ?_)
  first | rw [show A.in1.handled = none from hh] | rw [hh]
  refine wpAny_bind (wpAny_pure (wpAny_throw ?_))
  exact hE _ _ (((Heap.SameBut.update ..).extBut.push _).push _) ⟨_, Heap.get?_push_size _ rfl, rfl⟩
end
theorem Draws_tuple {prog : Program} {w : World} {A : Around} (hh : A.handled = none) (it l : Addr) (hne : l ≠ it) (items : Array Value) :
    Draws prog w A it [it, l] items.size (fun i v => items[i]? = some v) (fun i h => h.IsTupleIter it l i ∧ h.IsTuple l items) where
  live := fun _ _ st => let ⟨o, ho, _⟩ := st.1; ⟨o, ho⟩
  frame := fun _ _ _ st hk => ⟨(let ⟨o, ho, r⟩ := st.1; ⟨o, hk it (by simp) o ho, r⟩), (let ⟨o, ho, r⟩ := st.2; ⟨o, hk l (by simp) o ho, r⟩)⟩
  item := fun i s Q E hi st hQ => by
    refine tupNext_item st.1 st.2 (x := items[i]) (by simp [hi]) fun h' hit' hs' => ?_
    exact hQ _ h' s.toks (by simp [hi]) ⟨hit', st.2.extBut hs'.extBut hne⟩ hs'
  done := fun s Q E st hE => tupNext_end hh st.1 st.2 (by simp) hE
theorem meets_enumerate_newT (l : Addr) (items : Array Value) (n : Nat) (dct : Option Addr) (sl : Array (Option Value)) :
    Meets (Builtin.«enumerate.__new__» ⟨[.type "enumerate", .ref l], []⟩) (fun _ R s => s.heap.get? l = some { cls := .type "tuple", dict := dct, data := .seq items n, slots := sl } ∧
      R (.ok (.ret (.ref (s.heap.push { cls := .type "tuple_iterator", data := .fields #[.ref l, .int 0 0] }).objs.size)))
        { s with heap := (s.heap.push { cls := .type "tuple_iterator", data := .fields #[.ref l, .int 0 0] }).push { cls := .type "enumerate", data := .fields #[.none, .bool false, .ref s.heap.objs.size, rawInt 0, .none, .none] } }) :=
  .of_wp fun prog w A R s h => by
    obtain ⟨hp, g, d, tk, os⟩ := s; obtain ⟨hl, h⟩ := h
    have hsub := sub_enumerate
    have hL : Heap.IsTuple (Shared.heap ⟨hp, g, d, tk, os⟩) l items := ⟨_, hl, rfl, n, rfl⟩
    wp_walk using AutoSeq1.wpAny_loadPart' hl
    refine wpAny_stack_any fun st => wpAny_pure ?_
    split
    · rename_i c _ _ _ _ _
      cases (c == Value.type "enumerate")
      · wp_walk using AutoSeq1.wpAny_loadPart' hl, wpAny_pyIter_tuple hL
        exact ⟨_, rfl, h⟩
      · wp_walk using AutoSeq1.wpAny_loadPart' hl, wpAny_pyIter_tuple hL
        exact ⟨_, rfl, h⟩
    · wp_walk using AutoSeq1.wpAny_loadPart' hl, wpAny_pyIter_tuple hL
      exact ⟨_, rfl, h⟩
section
variable {prog : Program} {w : World} {A : Around} {E : Value → Shared → Prop} {s : Shared} {env : Env} {h₀ : Heap} {body : List Stmt}
theorem enumerate_tuple {l : Addr} {items : Array Value} {Q : Value → Shared → Prop} (hL : s.heap.IsTuple l items)
    (h : ∀ h', IsEnum h' (s.heap.objs.size + 1) s.heap.objs.size 0 .none → h'.IsTupleIter s.heap.objs.size l 0 → h'.objs.size = s.heap.objs.size + 2 →
      (∀ b o, s.heap.get? b = some o → h'.get? b = some o) → Q (.ref (s.heap.objs.size + 1)) { s with heap := h' }) :
    wpAny (model prog w) A (call (.type "enumerate") [.ref l]) Q E s := by
  obtain ⟨⟨c, dct, dt, sl⟩, hl, hc, n, hd⟩ := hL
  replace hc : c = .type "tuple" := hc
  replace hd : dt = .seq items n := hd
  subst hc hd
  refine callType_new F.called_enumerate (by decide) (F.typeCall_enumerate_1 _) (F.newCall_enumerate_1 _) (fun obj => F.args_object_init_2 obj _) F.entry_enumerate_new
    (meets_enumerate_newT l items n dct sl) ⟨hl, ?_⟩
  have hz : (s.heap.push { cls := .type "tuple_iterator", data := .fields #[.ref l, .int 0 0] }).objs.size = s.heap.objs.size + 1 := Heap.size_push ..
  show _ ∧ _
  rw [hz]
  have he : IsEnum ((s.heap.push { cls := .type "tuple_iterator", data := .fields #[.ref l, .int 0 0] }).push
      { cls := .type "enumerate", data := .fields #[.none, .bool false, .ref s.heap.objs.size, rawInt 0, .none, .none] }) (s.heap.objs.size + 1) s.heap.objs.size 0 .none := by
    have := Heap.get?_push_size (s.heap.push { cls := .type "tuple_iterator", data := .fields #[.ref l, .int 0 0] })
      (o := { cls := .type "enumerate", data := .fields #[.none, .bool false, .ref s.heap.objs.size, rawInt 0, .none, .none] }) rfl
    rw [hz] at this; exact this
  refine ⟨⟨_, he, rfl⟩, h _ he ⟨_, Heap.get?_push_of_some _ (Heap.get?_push_size _ rfl), rfl, rfl⟩ (by rw [Heap.size_push, hz]) fun b o x => Heap.get?_push_of_some _ (Heap.get?_push_of_some _ x)⟩
theorem enum_turns {elts : List PySem.Expr} {k : Nat} {pos : PySem.Pos} {Q : Flow → Shared → Prop} {l : Addr} {lo : Obj} {vs : List Value} {xs : List Itm} {n : Nat} {m₀ : Str → Option Value} {news : List (Addr × Obj)}
    (hh : A.handled = none) (F : Fr h₀ env.locals s.heap m₀) (N : News h₀ env.locals s.heap news) (hm : (l, lo) ∈ news) (hc : lo.cls = .type "tuple") (hd : lo.data = .seq vs.toArray n) (hx : enumItems 0 vs = xs)
    (rest₀ : ∀ I : Addr, (∀ p ∈ news, p.1 < I) → ItemsRest prog w A E h₀ env (.Tuple elts k pos) body Q s [(I + 1, "enumerate"), (I, "tuple_iterator")] [(l, lo)] xs m₀ news) :
    wpAny (model prog w) A (call (.type "enumerate") [.ref l]) (fun xv s₁ => wpAny (model prog w) A (pyIter xv) (fun it s₂ => TurnsAt prog w A h₀ env (.Tuple elts k pos) body Q E it s₂) E s₁) E s := by
  subst hx
  have hax := N _ hm
  have hl : s.heap.IsTuple l vs.toArray := ⟨lo, hax.1, hc, n, hd⟩
  have hlt : l < s.heap.objs.size := Heap.lt_size hax.1
  have hLs : env.locals < s.heap.objs.size := F.ns.lt
  refine enumerate_tuple hl fun h' hE hI hsz hk => ?_
  refine wpAny_pyIter_enum hE ?_
  have hef : s.heap.objs.size + 1 ∉ [s.heap.objs.size, l] := fun q => by
    rcases List.mem_cons.mp q with q | q
    · exact Nat.succ_ne_self _ q
    · exact ktu_ne 1 hlt (List.mem_singleton.mp q).symm
  refine ktu_core (tk0 := s.toks) (keep := [(l, lo)]) (KTurns.ofWalksU (WalksT.enumerateD (Draws_tuple (A := A.in1) hh s.heap.objs.size l (Nat.ne_of_lt hlt) vs.toArray) (s.heap.objs.size + 1) (Nat.succ_ne_self _) hef (by simp)).toU) (by simp [enumItems_length]) ?_ ?_ ?_ ?_ ?_ ?_ ?_ ?_ (F.keeps hk) (N.grown hk) (And.intro hm trivial) (rest₀ _ fun p hp => Heap.lt_size (N p hp).1)
  · rintro i v h ⟨T, vals, rfl, ⟨t, x, hx, rfl⟩, hT⟩
    refine ⟨_, enumItems_get vs 0 i (v := x) (by simpa using hx), T, t, rfl, ?_⟩
    show IsTup h T #[.int ((0 + i : Nat) : Int) t, x]
    rw [Nat.zero_add]
    exact hT
  · rintro i h ⟨⟨old, he⟩, ⟨oi, hoi, hic, _⟩, _⟩
    have he' : ∃ oe : Obj, h.get? (s.heap.objs.size + 1) = some oe ∧ oe.cls = .type "enumerate" := ⟨_, he, rfl⟩
    obtain ⟨oe, h1, h2⟩ := he'
    refine ⟨[(s.heap.objs.size + 1, oe), (s.heap.objs.size, oi)], ⟨⟨rfl, h2⟩, ⟨rfl, hic⟩, trivial⟩, fun p hp => ?_⟩
    rcases List.mem_cons.mp hp with rfl | hp
    · exact h1
    · rw [List.mem_singleton.mp hp]; exact hoi
  · intro b hb
    have hb' : b = s.heap.objs.size + 1 ∨ b = s.heap.objs.size := by simpa using hb
    rcases hb' with rfl | rfl
    · exact ⟨by simp, ktu_new F (Nat.le_add_right _ _)⟩
    · exact ⟨by simp, ktu_new F (Nat.le_refl _)⟩
  · intro b hb
    simpa using hb
  · intro b hb
    have hb' : b = s.heap.objs.size + 1 ∨ b = s.heap.objs.size ∨ b = l := by simpa using hb
    rcases hb' with rfl | rfl | rfl
    · exact .inl (by simp)
    · exact .inl (by simp)
    · exact .inr ⟨lo, by simp⟩
  · intro hI'
    have hb' : env.locals = s.heap.objs.size + 1 ∨ env.locals = s.heap.objs.size ∨ env.locals = l := by simpa using hI'
    rcases hb' with e | e | e
    · exact ktu_ne 1 hLs e
    · exact Nat.ne_of_lt hLs e
    · exact hax.2.1 e.symm
  · intro p hp hI'
    have hb' : p.1 = s.heap.objs.size + 1 ∨ p.1 = s.heap.objs.size := by simpa using hI'
    have hlp := Heap.lt_size (N p hp).1
    rcases hb' with e | e
    · exact ktu_ne 1 hlp e
    · exact Nat.ne_of_lt hlp e
  · exact ⟨⟨.none, hE⟩, hI, let ⟨o, ho, r⟩ := hl; ⟨o, hk l o ho, r⟩⟩
end
end
section
/-- what a contract knows of the frames that call -/
abbrev aTop (dp un : Nat) (gd : Option (List Code)) (fr : Option (List Env)) : Around := { handled := none, depth := dp, frames := fr, guards := gd, units := un }
/-- what a call did: all but its own objects stands, its own are these -/
structure Sep (h h' : Heap) (own own' : List (Addr × Obj)) : Prop where
  keep : ∀ b o, h.get? b = some o → b ∉ own.map (·.1) → h'.get? b = some o
  now : ∀ p ∈ own', h'.get? p.1 = some p.2
  new : ∀ p ∈ own', p.1 ∈ own.map (·.1) ∨ h.get? p.1 = none
def Apart (own rest : List (Addr × Obj)) : Prop := ∀ b ∈ rest.map (·.1), b ∉ own.map (·.1)
theorem Apart.at {own rest : List (Addr × Obj)} (ap : Apart own rest) (p : Addr × Obj) (hp : p ∈ rest) : p.1 ∉ own.map (·.1) := ap _ (List.mem_map_of_mem hp)
theorem Apart.of {own rest : List (Addr × Obj)} (h : ∀ p ∈ rest, p.1 ∉ own.map (·.1)) : Apart own rest := fun b hb => let ⟨p, hp, e⟩ := List.mem_map.mp hb; e ▸ h p hp
def LeaveS (g : Heap) (P : Value → List (Addr × Obj) → Shared → Prop) (v : Value) (s' : Shared) : Prop :=
  ∃ L' m' news', Fr g L' s'.heap m' ∧ News g L' s'.heap news' ∧ P v news' s'
theorem leaveS_ {g : Heap} {P : Value → List (Addr × Obj) → Shared → Prop} {v : Value} {s' : Shared} {L' : Addr} {m' : Str → Option Value} {news' : List (Addr × Obj)} (F : Fr g L' s'.heap m') (N : News g L' s'.heap news') (h : P v news' s') : LeaveS g P v s' := ⟨_, _, _, F, N, h⟩
theorem hideAll_some : ∀ (l : List Addr) {h : Heap} {b : Addr} {o : Obj}, (hideAll h l).get? b = some o → b ∉ l := fun l _ _ _ e q => by rw [hideAll_none l q] at e; cases e
theorem sep_of {h h' : Heap} {own own' : List (Addr × Obj)} {L' : Addr} {m' : Str → Option Value} (F : Fr (hideAll h (own.map (·.1))) L' h' m') (N : News (hideAll h (own.map (·.1))) L' h' own') : Sep h h' own own' where
  keep := fun b o e n => F.keep b o (hideAll_get _ e n)
  now := fun p hp => (N p hp).1
  new := fun p hp => by
    by_cases q : p.1 ∈ own.map (·.1)
    · exact .inl q
    · refine .inr ?_
      cases e : h.get? p.1 with
      | none => rfl
      | some o => have := (N p hp).2.2; rw [hideAll_get _ e q] at this; cases this
theorem Sep.fr {h h' h₀ : Heap} {L : Addr} {m : Str → Option Value} {own own' : List (Addr × Obj)} (S : Sep h h' own own') (F : Fr h₀ L h m) (N : News h₀ L h own) : Fr h₀ L h' m := by
  obtain ⟨oL, es, ep, hL, r⟩ := F.ns
  refine ⟨⟨oL, es, ep, S.keep L oL hL fun q => ?_, r⟩, fun b o e => S.keep b o (F.keep b o e) fun q => ?_, F.above⟩
  · obtain ⟨p, hp, e⟩ := List.mem_map.mp q
    exact (N p hp).2.1 e
  · obtain ⟨p, hp, rfl⟩ := List.mem_map.mp q
    have := (N p hp).2.2; rw [e] at this; cases this
theorem Sep.news {h h' h₀ : Heap} {L : Addr} {m : Str → Option Value} {own own' : List (Addr × Obj)} (S : Sep h h' own own') (F : Fr h₀ L h m) (N : News h₀ L h own) : News h₀ L h' own' := fun p hp => by
  refine ⟨S.now p hp, ?_⟩
  rcases S.new p hp with q | q
  · obtain ⟨p', hp', e⟩ := List.mem_map.mp q
    rw [← e]; exact (N p' hp').2
  · obtain ⟨oL, es, ep, hL, r⟩ := F.ns
    refine ⟨fun e => (by rw [e, hL] at q; cases q), ?_⟩
    cases e : h₀.get? p.1 with
    | none => rfl
    | some o => rw [F.keep _ _ e] at q; cases q
theorem Sep.rest {h h' h₀ : Heap} {L : Addr} {own own' rest : List (Addr × Obj)} (S : Sep h h' own own') (N : News h₀ L h rest) (hn : Apart own rest) : News h₀ L h' rest := fun p hp =>
  ⟨S.keep _ _ (N p hp).1 (hn.at p hp), (N p hp).2⟩
theorem Sep.apart {h h' h₀ : Heap} {L : Addr} {own own' rest : List (Addr × Obj)} (S : Sep h h' own own') (N : News h₀ L h rest) (hn : Apart own rest) : Apart own' rest := Apart.of fun p hp q => by
  obtain ⟨x, hx, e⟩ := List.mem_map.mp q
  rcases S.new x hx with k | k
  · exact hn.at p hp (e ▸ k)
  · rw [show x.1 = p.1 from e, (N p hp).1] at k; cases k
theorem Sep.trans0 {h h₁ h' : Heap} {own₁ own' : List (Addr × Obj)} (k : ∀ b o, h.get? b = some o → h₁.get? b = some o ∧ b ∉ own₁.map (·.1)) (S : Sep h₁ h' own₁ own') (n : ∀ p ∈ own₁, h.get? p.1 = none) : Sep h h' [] own' where
  keep := fun b o e _ => S.keep b o (k b o e).1 (k b o e).2
  now := S.now
  new := fun p hp => .inr ((S.new p hp).elim (fun q => (let ⟨x, hx, e⟩ := List.mem_map.mp q; e ▸ n x hx)) fun q => by
    cases e : h.get? p.1 with
    | none => rfl
    | some o => rw [(k _ _ e).1] at q; cases q)
theorem news_drop {h₀ h : Heap} {L : Addr} {x : Addr × Obj} {l : List (Addr × Obj)} (N : News h₀ L h (x :: l)) : News h₀ L h l := fun p hp => N p (.tail _ hp)
theorem news_left {h₀ h : Heap} {L : Addr} {l r : List (Addr × Obj)} (N : News h₀ L h (l ++ r)) : News h₀ L h l := fun p hp => N p (List.mem_append_left _ hp)
theorem news_right {h₀ h : Heap} {L : Addr} {l r : List (Addr × Obj)} (N : News h₀ L h (l ++ r)) : News h₀ L h r := fun p hp => N p (List.mem_append_right _ hp)
theorem news_append {h₀ h : Heap} {L : Addr} {l r : List (Addr × Obj)} (N : News h₀ L h l) (M : News h₀ L h r) : News h₀ L h (l ++ r) := fun p hp => (List.mem_append.mp hp).elim (N p) (M p)
section dict
variable {prog : Program} {w : World} {K : Type} [DecidableEq K] {knd : KeyKind prog w K} {A : Around} {E : Value → Shared → Prop} {s : Shared} {h₀ : Heap} {L d : Addr} {m : Str → Option Value} {news : List (Addr × Obj)} {u : Obj → List (Addr × Obj)} {o : Obj} {kvs : List (K × Value)} {k : K} {key v : Value}
theorem d_back (F : Fr h₀ L s.heap m) (N : News h₀ L s.heap news) (U : UpdF d o news u) {h' : Heap} {kvs' : List (K × Value)} (hm : h'.DictOf knd d kvs') (hs : Heap.SameBut d s.heap h') :
    ∃ o', Fr h₀ L h' m ∧ News h₀ L h' (u o') ∧ o'.IsDictOf knd kvs' := by
  obtain ⟨pre, post, rfl, hg, a, b⟩ := U.split
  have hn := N (d, o) (List.mem_append_right _ (.head _))
  obtain ⟨o', ho', hd'⟩ := Heap.dictOf_iff.mp hm
  exact ⟨o', F.change hs hn.2.1 hn.2.2, hg o' ▸ N.setIn a b hs ho', hd'⟩
theorem d_at (N : News h₀ L s.heap news) (U : UpdF d o news u) (hd : o.IsDictOf knd kvs) : s.heap.DictOf knd d kvs := by
  obtain ⟨pre, post, rfl, hg, a, b⟩ := U.split
  exact Heap.dictOf_iff.mpr ⟨o, (N (d, o) (List.mem_append_right _ (.head _))).1, hd⟩
theorem d_del {Q : Unit → Shared → Prop} (F : Fr h₀ L s.heap m) (N : News h₀ L s.heap news) (U : UpdF d o news u) (hd : o.IsDictOf knd kvs) (hkey : knd.is k key = true) (hl : (valueAt kvs k).isSome = true) (hsz : kvs.length ≤ sizeLine)
    (h : ∀ h' o', Fr h₀ L h' m → News h₀ L h' (u o') → o'.IsDictOf knd (without kvs k) → Q () { s with heap := h', toks := s.toks + 1 }) : wpAny (model prog w) A (delItem (.ref d) key) Q E s := by
  have hD := d_at N U hd
  unfold delItem
  try with_reducible refine wpAny_holding ?_
  refine wpAny_bind (wpAny_sequenceKey hD.typeIs (by decide) ?_)
  refine wpAny_bind (wpAny_callSpecial?_slot (name := Str.ofString "__delitem__") hD.typeIs PySem.F.slot_dict_delitem
    (call_meetsIn PySem.F.slot_dict_delitem hD.typeIs PySem.F.entry_dict_delitem (PySem.F.args_dict_delitem_2 _ _) (meets_dict_delitem_pairs knd d hkey) ⟨kvs, hD, hsz, hl, fun h' hmm hs => ?_⟩))
  obtain ⟨o', F', N', hd'⟩ := d_back F N U hmm hs
  exact wpAny_pure (h h' o' F' N' hd')
theorem d_pop {Q : Value → Shared → Prop} (F : Fr h₀ L s.heap m) (N : News h₀ L s.heap news) (U : UpdF d o news u) (hd : o.IsDictOf knd kvs) (hkey : knd.is k key = true) (hpart : (keyPart key).isSome = true) (hl : valueAt kvs k = some v) (hsz : kvs.length ≤ sizeLine)
    (h : ∀ h' o', Fr h₀ L h' m → News h₀ L h' (u o') → o'.IsDictOf knd (without kvs k) → Q v { s with heap := h', toks := s.toks + 1 }) : wpAny (model prog w) A (call (.builtin "dict.pop") [.ref d, key]) Q E s := by
  have hD := d_at N U hd
  refine call_meetsIn PySem.F.slot_dict_pop hD.typeIs PySem.F.entry_dict_pop (PySem.F.args_dict_pop_2 _ _) (meets_dict_pop_there knd d hkey [] (.inl rfl) hpart) ⟨kvs, v, hD, hsz, hl, fun h' hmm hs => ?_⟩
  obtain ⟨o', F', N', hd'⟩ := d_back F N U hmm hs
  exact h h' o' F' N' hd'
theorem d_popx {Q : Value → Shared → Prop} (hh : A.handled = none) (N : News h₀ L s.heap news) (hp : (d, o) ∈ news) (hd : o.IsDictOf knd kvs) (lo : (d == sysModules) = false) (hkey : knd.is k key = true) (hpart : (keyPart key).isSome = true) (hl : valueAt kvs k = none)
    (h : ∀ h' e, Heap.NewExc s.heap h' e "KeyError" → E (.ref e) { s with heap := h', toks := s.toks + 1 }) : wpAny (model prog w) A (call (.builtin "dict.pop") [.ref d, key]) Q E s := by
  have hD : s.heap.DictOf knd d kvs := kda_dict N hp hd
  exact call_meetsIn PySem.F.slot_dict_pop hD.typeIs PySem.F.entry_dict_pop (PySem.F.args_dict_pop_2 _ _) (meets_dict_pop_missing knd d hkey lo hpart) ⟨hh, kvs, hD, hl, fun h' e x => h h' e x⟩
theorem d_truthy {Q : Bool → Shared → Prop} (N : News h₀ L s.heap news) (hp : (d, o) ∈ news) (hd : o.IsDictOf knd kvs) (lo : (d == sysModules) = false) (hfit : kvs.length ≤ 16777216) (h : Q (!kvs.isEmpty) { s with toks := s.toks + 1 + 1 }) : wpAny (model prog w) A (truthy (.ref d)) Q E s :=
  wpAny_truthy_dict lo (kda_dict N hp hd) (by omega) h
end dict
noncomputable abbrev lawProg : Program := PySem.Challenge.rw_bg0027_01.row.toRowW.prog
noncomputable abbrev lawLoose : List Str := looseW hd.view_39
    [Str.ofString "Iterable", Str.ofString "Sized", Str.ofString "Container", Str.ofString "Collection",
      Str.ofString "Set", Str.ofString "Mapping", Str.ofString "MappingView", Str.ofString "KeysView",
      Str.ofString "ItemsView", Str.ofString "ValuesView", Str.ofString "MutableMapping", Str.ofString "Cache",
      Str.ofString "FIFOCache", Str.ofString "LFUCache", Str.ofString "LRUCache"]
/-- a call of f does this to its own objects, and nothing to any other -/
def Does (w : World) (D U : Nat) (f : Addr) (vals : List Value) (own : List (Addr × Obj)) (Post : Value → List (Addr × Obj) → Prop) : Prop :=
  ∀ (h₀ : Heap) (L : Addr) (m : Str → Option Value) (mean : ExcName → Option Value) (mg mb : Str → Option Value) (s : Shared) (dp un : Nat) (gd : Option (List Code)) (fr : Option (List Env)) (R : Result → Shared → Prop),
    Fr h₀ L s.heap m → (hd.heap_39 w.params).In h₀ → News h₀ L s.heap own → Top hd.view_39 lawLoose mean mg mb h₀ → dp ≤ D → un ≤ U →
    (∀ v own' h' tk', Fr h₀ L h' m → News h₀ L h' own' → Sep s.heap h' own own' → Post v own' → R (.ok (.ret v)) { s with heap := h', toks := tk' }) →
    codeAny (model lawProg w) (aTop dp un gd fr) (.call (.ref f) ⟨vals, []⟩) R s
section
variable {w : World} {D U : Nat} {f : Addr} {vals : List Value} {own rest : List (Addr × Obj)} {Post : Value → List (Addr × Obj) → Prop}
  {h₀ : Heap} {L : Addr} {m : Str → Option Value} {mean : ExcName → Option Value} {mg mb : Str → Option Value} {s : Shared} {dp un : Nat} {gd : Option (List Code)} {fr : Option (List Env)} {Q E : Value → Shared → Prop}
theorem Does.use (S : Does w D U f vals own Post) (F : Fr h₀ L s.heap m) (X : (hd.heap_39 w.params).In h₀) (N : News h₀ L s.heap own) (T : Top hd.view_39 lawLoose mean mg mb h₀) (hD : dp ≤ D) (hU : un ≤ U)
    (h : ∀ v own' h' tk', Fr h₀ L h' m → News h₀ L h' own' → Post v own' → Q v { s with heap := h', toks := tk' }) :
    wpAny (model lawProg w) (aTop dp un gd fr) (call (.ref f) vals) Q E s := wpAny_call (S _ _ _ _ _ _ _ _ _ _ _ _ F X N T hD hU fun v own' h' tk' F' N' _ p => h v own' h' tk' F' N' p)
theorem Does.useR (S : Does w D U f vals own Post) (F : Fr h₀ L s.heap m) (X : (hd.heap_39 w.params).In h₀) (N : News h₀ L s.heap (own ++ rest)) (ap : Apart own rest) (T : Top hd.view_39 lawLoose mean mg mb h₀) (hD : dp ≤ D) (hU : un ≤ U)
    (h : ∀ v own' h' tk', Fr h₀ L h' m → News h₀ L h' (own' ++ rest) → Apart own' rest → Post v own' → Q v { s with heap := h', toks := tk' }) :
    wpAny (model lawProg w) (aTop dp un gd fr) (call (.ref f) vals) Q E s :=
  wpAny_call (S _ _ _ _ _ _ _ _ _ _ _ _ F X (news_left N) T hD hU fun v own' h' tk' F' N' Z p => h v own' h' tk' F' (news_append N' (Z.rest (news_right N) ap)) (Z.apart (news_right N) ap) p)
theorem Does.intro {name qual : Str} {params : Arguments} {body : List Stmt} {scope : Scope} {dV kV doc pm cdv ct oc : Value} {an od : Option Addr} {osl : Array (Option Value)} {binds : List (Str × Value)}
    (hDD : D < recursionLimit)
    (ho : (hd.heap_39 w.params).lookup f = some ⟨oc, od, .func (fnOf name qual params body scope dV kV doc pm an cdv ct), osl⟩) (hcd : codeIn (hd.heap_39 w.params) cdv qual = true)
    (hbind : ∀ s : Shared, (hd.heap_39 w.params).In s.heap → BindsTo s (fnOf name qual params body scope dV kV doc pm an cdv ct) ⟨vals, []⟩ binds) (hloc : ∀ y ∈ binds, scope.names.lookup y.1 = some .local)
    (hco : scope.isCoroutine = false) (hgen : scope.isGenerator = false) (hk : scope.kind = .function)
    (hcell : ∀ x ∈ scope.names, x.2 ≠ .cell)
    (h : ∀ (mean : ExcName → Option Value) (mg mb : Str → Option Value) (s : Shared) (dp un : Nat) (gd : Option (List Code)) (fr : Option (List Env)) (g : Heap) (L' : Addr) (h₁ : Heap), dp ≤ D → un ≤ U →
      Fr g L' h₁ (fun y => binds.reverse.lookup y) → News g L' h₁ own → (hd.heap_39 w.params).In g → Top hd.view_39 lawLoose mean mg mb g →
      wpAny (model lawProg w) ((aTop dp un gd fr).deeper (envOf qual scope L' f cdv)) (execs body (envOf qual scope L' f cdv))
        (fun fl s' => LeaveS g (fun v own' s' => (∃ h' tk', s' = { s with heap := h', toks := tk' }) ∧ Post v own') (match fl with | .ret v => v | _ => .none) s')
        (fun _ _ => False)
        { s with heap := h₁, toks := s.toks + binds.length }) : Does w D U f vals own Post := by
  intro h₀ L m mean mg mb s dp un gd fr R F X N T hD hU hQ
  have st : h₀.StaysIn (hideAll s.heap (own.map (·.1))) := fun b o e => hideAll_get _ (F.keep b o e) fun q => by
    obtain ⟨p, hp, rfl⟩ := List.mem_map.mp q
    have := (N p hp).2.2; rw [e] at this; cases this
  refine codeAny_call_def (fd := fnOf name qual params body scope dV kV doc pm an cdv ct) (body := body) (binds := binds) (Nat.lt_of_le_of_lt hD hDD) ((X.keeps F.keep) _ _ ho) rfl (T.nolimit.keeps F.keep) (codeRec_of (X.keeps F.keep) hcd) rfl
    (hbind s (X.keeps F.keep)) hcell hloc (fun h₁ hns hk₁ => ?_) hco hgen hk
  have F₁ : Fr (hideAll s.heap (own.map (·.1))) s.heap.objs.size h₁ (fun y => binds.reverse.lookup y) := ⟨hns, fun b o e => hk₁ b o (of_hideAll _ e), Nat.le_of_eq (hideAll_size _ _)⟩
  refine wpAny_mono (h mean mg mb s dp un gd fr _ s.heap.objs.size h₁ hD hU F₁
    (fun p hp => ⟨hk₁ _ _ (N p hp).1, Nat.ne_of_lt (Heap.lt_size (N p hp).1), hideAll_none _ (List.mem_map_of_mem hp)⟩) (X.keeps st) (T.keeps st)) (fun fl s' hl => ?_) fun _ _ y => y.elim
  obtain ⟨L', m', news', F', N', ⟨h', tk', rfl⟩, hp⟩ := hl
  have Z := sep_of F' N'
  exact hQ _ _ _ _ (Z.fr F N) (Z.news F N) Z hp
end
/-- a class is called: an object, then its __init__ -/
theorem Does.make {w : World} {D U : Nat} {C fI : Addr} {vals : List Value} {Post : Value → List (Addr × Obj) → Prop} (hm : makesIn (hd.heap_39 w.params) C = true) (hi : findIn (hd.heap_39 w.params) (.ref C) "__init__" = some (some (.ref fI))) (hf : isFn (hd.heap_39 w.params) (.ref fI) = true)
    (S : ∀ x dx : Nat, dx < x → 1 < dx → Does w (D + 1) (U + 1) fI (.ref x :: vals) [(x, instObj C dx), (dx, dictOf [] 0)] (fun r own' => r = .none ∧ Post (.ref x) own')) : Does w D U C vals [] Post := by
  intro h₀ L m mean mg mb s dp un gd fr R F X N T hD hU hQ
  obtain ⟨hh, g, d, tt, os⟩ := s
  have N₂ : News h₀ L ((hh.push emptyDict).push (instObj C hh.objs.size)) [(hh.objs.size + 1, instObj C hh.objs.size), (hh.objs.size, dictOf [] 0)] := by
    have := ((News.nil (h := hh) (L := L)).push F emptyDict).push (F.push _) (instObj C hh.objs.size)
    rwa [Heap.size_push] at this
  have F₂ := (F.push emptyDict).push (instObj C hh.objs.size)
  refine make_core (makes_of (X.keeps F.keep) hm) (looks_findIn (X.keeps F.keep) hi) (fun self => bind_fn (X.keeps F.keep) self (beq_iff_eq.mp hf)) (.inl rfl) ?_
  have big : 1 < hh.objs.size := Nat.lt_of_lt_of_le (modules_low T.nolimit) (Nat.le_of_lt (Nat.lt_of_le_of_lt F.above (Heap.Ns.lt F.ns)))
  refine S (hh.objs.size + 1) hh.objs.size (Nat.lt_succ_self _) big h₀ L m mean mg mb ⟨(hh.push emptyDict).push (instObj C hh.objs.size), g, d, tt, os⟩ (dp + 1) (un + 1) gd fr _ F₂ X N₂ T (Nat.add_le_add_right hD 1) (Nat.add_le_add_right hU 1) ?_
  intro v own' h' tk' F' N' Z p
  obtain ⟨rfl, p⟩ := p
  refine ⟨rfl, hQ _ own' h' tk' F' N' (Z.trans0 (fun b o e => ⟨Heap.get?_push_of_some _ (Heap.get?_push_of_some _ e), fun q => ?_⟩) fun q hq => ?_) p⟩
  · have := Heap.lt_size e
    simp only [List.map_cons, List.map_nil, List.mem_cons, List.not_mem_nil, or_false] at q
    rcases q with rfl | rfl
    · exact Nat.not_succ_lt_self this
    · exact Nat.lt_irrefl _ this
  · cases e : (Shared.heap ⟨hh, g, d, tt, os⟩).get? q.1 with
    | none => rfl
    | some o =>
      have := Heap.lt_size e
      simp only [List.mem_cons, List.not_mem_nil, or_false] at hq
      rcases hq with rfl | rfl
      · exact (Nat.not_succ_lt_self this).elim
      · exact (Nat.lt_irrefl _ this).elim
/-- as Does, but the frames that call may be noted (their slots): an exception is caught within -/
def DoesF (w : World) (D U : Nat) (f : Addr) (vals : List Value) (own : List (Addr × Obj)) (Post : Value → List (Addr × Obj) → Prop) : Prop :=
  ∀ (h₀ : Heap) (L : Addr) (m : Str → Option Value) (mean : ExcName → Option Value) (mg mb : Str → Option Value) (s : Shared) (dp un : Nat) (gd : Option (List Code)) (env : Env) (outer : List Env) (frs rest : List (Addr × Obj)) (Q E : Value → Shared → Prop),
    Fr h₀ L s.heap m → (hd.heap_39 w.params).In h₀ → News h₀ L s.heap (own ++ (frs ++ rest)) → Apart own (frs ++ rest) → Apart frs rest → Frs outer frs → env.frame = some L → env.scope.kind = .function → Top hd.view_39 lawLoose mean mg mb h₀ → dp ≤ D → un ≤ U →
    (∀ v own' frs' h' tk', Fr h₀ L h' m → News h₀ L h' (own' ++ (frs' ++ rest)) → Apart own' (frs' ++ rest) → Apart frs' rest → SameUp frs frs' → Frs outer frs' → Post v own' → Q v { s with heap := h', toks := tk' }) →
    wpAny (model lawProg w) (aTop dp un gd (some (env :: outer))) (call (.ref f) vals) Q E s
def LeaveF (g : Heap) (l : List Env) (frs : List (Addr × Obj)) (P : Value → List (Addr × Obj) → Shared → Prop) (v : Value) (s' : Shared) : Prop :=
  ∃ L' m' own' frs', Fr g L' s'.heap m' ∧ News g L' s'.heap (own' ++ frs') ∧ Apart own' frs' ∧ SameUp frs frs' ∧ Frs l frs' ∧ P v own' s'
theorem sameUp_addrs : ∀ {a b : List (Addr × Obj)}, SameUp a b → b.map (·.1) = a.map (·.1)
  | [], [], _ => rfl
  | _ :: _, _ :: _, ⟨x, _, r⟩ => by rw [List.map_cons, List.map_cons, x, sameUp_addrs r]
  | [], _ :: _, h => h.elim
  | _ :: _, [], h => h.elim
section
variable {w : World} {D U : Nat} {f : Addr} {vals : List Value} {own rest : List (Addr × Obj)} {Post : Value → List (Addr × Obj) → Prop}
theorem DoesF.of (S : Does w D U f vals own Post) : DoesF w D U f vals own Post := fun _ _ _ _ _ _ _ _ _ _ _ _ _ _ _ _ F X N ap ap2 Fs _ _ T hD hU h =>
  S.useR F X N ap T hD hU fun v own' h' tk' F' N' ap' p => h v own' _ h' tk' F' N' ap' ap2 (SameUp.refl _) Fs p
theorem DoesF.intro {name qual : Str} {params : Arguments} {body : List Stmt} {scope : Scope} {dV kV doc pm cdv ct oc : Value} {an od : Option Addr} {osl : Array (Option Value)} {binds : List (Str × Value)}
    (hDD : D < recursionLimit)
    (ho : (hd.heap_39 w.params).lookup f = some ⟨oc, od, .func (fnOf name qual params body scope dV kV doc pm an cdv ct), osl⟩) (hcd : codeIn (hd.heap_39 w.params) cdv qual = true)
    (hbind : ∀ s : Shared, (hd.heap_39 w.params).In s.heap → BindsTo s (fnOf name qual params body scope dV kV doc pm an cdv ct) ⟨vals, []⟩ binds) (hloc : ∀ y ∈ binds, scope.names.lookup y.1 = some .local)
    (hco : scope.isCoroutine = false) (hgen : scope.isGenerator = false) (hk : scope.kind = .function)
    (hcell : ∀ x ∈ scope.names, x.2 ≠ .cell)
    (h : ∀ (mean : ExcName → Option Value) (mg mb : Str → Option Value) (s : Shared) (dp un : Nat) (gd : Option (List Code)) (l : List Env) (frs : List (Addr × Obj)) (g : Heap) (L' : Addr) (h₁ : Heap), dp ≤ D → un ≤ U →
      Fr g L' h₁ (fun y => binds.reverse.lookup y) → News g L' h₁ (own ++ frs) → Apart own frs → Frs l frs → (hd.heap_39 w.params).In g → Top hd.view_39 lawLoose mean mg mb g →
      wpAny (model lawProg w) ((aTop dp un gd (some l)).deeper (envOf qual scope L' f cdv)) (execs body (envOf qual scope L' f cdv))
        (fun fl s' => LeaveF g l frs (fun v own' s' => (∃ h' tk', s' = { s with heap := h', toks := tk' }) ∧ Post v own') (match fl with | .ret v => v | _ => .none) s')
        (fun _ _ => False)
        { s with heap := h₁, toks := s.toks + binds.length }) : DoesF w D U f vals own Post := by
  intro h₀ L m mean mg mb s dp un gd env outer frs rest Q E F X N ap ap2 Fs hf hke T hD hU hQ
  obtain ⟨oL, es, ep, hL, hLd, hLk, hLf⟩ := id F.ns
  have hid : ∀ b, b ∈ (own ++ (L, oL) :: frs).map (·.1) → h₀.get? b = none := fun b q => by
    obtain ⟨p, hp, rfl⟩ := List.mem_map.mp q
    rcases List.mem_append.mp hp with hp | hp
    · exact (N p (List.mem_append_left _ hp)).2.2
    · rcases List.mem_cons.mp hp with rfl | hp
      · cases e : h₀.get? L with
        | none => rfl
        | some o => exact absurd (Nat.lt_of_lt_of_le (Heap.lt_size e) F.above) (Nat.lt_irrefl _)
      · exact (N p (List.mem_append_right _ (List.mem_append_left _ hp))).2.2
  have st : h₀.StaysIn (hideAll s.heap ((own ++ (L, oL) :: frs).map (·.1))) := fun b o e => hideAll_get _ (F.keep b o e) fun q => by rw [hid b q] at e; cases e
  refine wpAny_call (codeAny_call_def (fd := fnOf name qual params body scope dV kV doc pm an cdv ct) (body := body) (binds := binds) (Nat.lt_of_le_of_lt hD hDD) ((X.keeps F.keep) _ _ ho) rfl (T.nolimit.keeps F.keep) (codeRec_of (X.keeps F.keep) hcd) rfl
    (hbind s (X.keeps F.keep)) hcell hloc (fun h₁ hns hk₁ => ?_) hco hgen hk)
  have F₁ : Fr (hideAll s.heap ((own ++ (L, oL) :: frs).map (·.1))) s.heap.objs.size h₁ (fun y => binds.reverse.lookup y) := ⟨hns, fun b o e => hk₁ b o (of_hideAll _ e), Nat.le_of_eq (hideAll_size _ _)⟩
  have at₀ : ∀ p ∈ own ++ (L, oL) :: frs, s.heap.get? p.1 = some p.2 := fun p hp => by
    rcases List.mem_append.mp hp with hp | hp
    · exact (N p (List.mem_append_left _ hp)).1
    · rcases List.mem_cons.mp hp with rfl | hp
      · exact hL
      · exact (N p (List.mem_append_right _ (List.mem_append_left _ hp))).1
  have apF : Apart own ((L, oL) :: frs) := Apart.of fun p hp q => by
    rcases List.mem_cons.mp hp with rfl | hp
    · obtain ⟨x, hx, e⟩ := List.mem_map.mp q
      exact (N x (List.mem_append_left _ hx)).2.1 e
    · exact ap.at p (List.mem_append_left _ hp) q
  refine wpAny_mono (h mean mg mb s dp un gd (env :: outer) ((L, oL) :: frs) _ s.heap.objs.size h₁ hD hU F₁
    (fun p hp => ⟨hk₁ _ _ (at₀ p hp), Nat.ne_of_lt (Heap.lt_size (at₀ p hp)), hideAll_none _ (List.mem_map_of_mem hp)⟩) apF ⟨(by rw [hke]; decide), hf, ⟨es, ep, hLd⟩, Fs⟩ (X.keeps st) (T.keeps st)) (fun fl s' hl => ?_) fun _ _ y => y.elim
  obtain ⟨L', m', own', frs'', F', N', ap', SU, Fs', ⟨h', tk', rfl⟩, hp⟩ := hl
  cases frs'' with
  | nil => exact SU.elim
  | cons q frs' =>
    obtain ⟨q1, oq⟩ := q
    obtain ⟨e1, ⟨sl, e2⟩, SU'⟩ := SU
    obtain rfl : q1 = L := e1
    obtain rfl : oq = { oL with slots := sl } := e2
    have frEq := sameUp_addrs SU'
    have keep : ∀ b o, s.heap.get? b = some o → b ∉ (own ++ (q1, oL) :: frs).map (·.1) → h'.get? b = some o := fun b o e n => F'.keep b o (hideAll_get _ e n)
    have hLh : h'.get? q1 = some { oL with slots := sl } := (N' _ (List.mem_append_right _ (.head _))).1
    have inO : ∀ p ∈ own' ++ (q1, { oL with slots := sl }) :: frs', p.1 ∈ (own ++ (q1, oL) :: frs).map (·.1) ∨ s.heap.get? p.1 = none := fun p hp => by
      by_cases z : p.1 ∈ (own ++ (q1, oL) :: frs).map (·.1)
      · exact .inl z
      · refine .inr ?_
        cases e : s.heap.get? p.1 with
        | none => rfl
        | some o => have := (N' p hp).2.2; rw [hideAll_get _ e z] at this; cases this
    have h₀none : ∀ p ∈ own' ++ (q1, { oL with slots := sl }) :: frs', h₀.get? p.1 = none := fun p hp => (inO p hp).elim (hid _) fun z => by
      cases e : h₀.get? p.1 with
      | none => rfl
      | some o => rw [F.keep _ _ e] at z; cases z
    have restNot : ∀ p ∈ rest, p.1 ∉ (own ++ (q1, oL) :: frs).map (·.1) := fun p hp z => by
      rw [List.map_append, List.mem_append] at z
      rcases z with z | z
      · exact ap.at p (List.mem_append_right _ hp) z
      · rw [List.map_cons] at z
        rcases List.mem_cons.mp z with z | z
        · exact (N p (List.mem_append_right _ (List.mem_append_right _ hp))).2.1 z
        · exact ap2.at p hp z
    have Frest : News h₀ q1 h' rest := fun p hp => by
      have x := N p (List.mem_append_right _ (List.mem_append_right _ hp))
      exact ⟨keep _ _ x.1 (restNot p hp), x.2⟩
    refine hQ _ own' frs' _ _ ⟨⟨_, es, ep, hLh, hLd, hLk, hLf⟩, fun b o e => keep b o (F.keep b o e) fun z => (by rw [hid b z] at e; cases e), F.above⟩ (news_append (fun p hp => ⟨(N' p (List.mem_append_left _ hp)).1, fun z => ?_, h₀none p (List.mem_append_left _ hp)⟩) (news_append (fun p hp => ⟨(N' p (List.mem_append_right _ (.tail _ hp))).1, fun z => ?_, h₀none p (List.mem_append_right _ (.tail _ hp))⟩) Frest)) (Apart.of fun p hp => ?_) (Apart.of fun p hp z => ?_) SU' Fs'.2.2.2 hp
    · exact ap'.at (q1, { oL with slots := sl }) (.head _) (List.mem_map.mpr ⟨p, hp, z⟩)
    · obtain ⟨x, hx, e⟩ := SU'.fwd p hp
      exact (N x (List.mem_append_right _ (List.mem_append_left _ hx))).2.1 (e.symm.trans z)
    · rcases List.mem_append.mp hp with hp | hp
      · exact ap'.at p (.tail _ hp)
      · intro z
        obtain ⟨x, hx, e⟩ := List.mem_map.mp z
        rcases inO x (List.mem_append_left _ hx) with y | y
        · exact restNot p hp (e ▸ y)
        · rw [show x.1 = p.1 from e, (N p (List.mem_append_right _ (List.mem_append_right _ hp))).1] at y; cases y
    · rw [frEq] at z
      exact ap2.at p hp z
end
section
variable {w : World} {D U : Nat} {f : Addr} {vals : List Value} {own : List (Addr × Obj)} {Post : Value → List (Addr × Obj) → Prop}
  {h₀ : Heap} {L : Addr} {m : Str → Option Value} {mean : ExcName → Option Value} {mg mb : Str → Option Value} {s : Shared} {dp un : Nat} {gd : Option (List Code)} {env : Env} {outer : List Env} {frs : List (Addr × Obj)} {Q E : Value → Shared → Prop}
/-- a DoesF call out of the body of a DoesF def: nothing beside the frames -/
theorem DoesF.use (S : DoesF w D U f vals own Post) (F : Fr h₀ L s.heap m) (X : (hd.heap_39 w.params).In h₀) (N : News h₀ L s.heap (own ++ frs)) (ap : Apart own frs) (Fs : Frs outer frs) (T : Top hd.view_39 lawLoose mean mg mb h₀) (hf : env.frame = some L) (hk : env.scope.kind = .function) (hD : dp ≤ D) (hU : un ≤ U)
    (h : ∀ v own' frs' h' tk', Fr h₀ L h' m → News h₀ L h' (own' ++ frs') → Apart own' frs' → SameUp frs frs' → Frs outer frs' → Post v own' → Q v { s with heap := h', toks := tk' }) :
    wpAny (model lawProg w) (aTop dp un gd (some (env :: outer))) (call (.ref f) vals) Q E s := by
  refine S _ _ _ _ _ _ _ _ _ _ _ _ frs [] _ _ F X (by rw [List.append_nil]; exact N) (by rw [List.append_nil]; exact ap) (fun _ h => by cases h) Fs hf hk T hD hU fun v own' frs' h' tk' F' N' ap' _ SU Fs' p => ?_
  rw [List.append_nil] at N' ap'
  exact h v own' frs' h' tk' F' N' ap' SU Fs' p
end
theorem leaveF_ {g : Heap} {l : List Env} {frs : List (Addr × Obj)} {P : Value → List (Addr × Obj) → Shared → Prop} {v : Value} {s' : Shared} {L' : Addr} {m' : Str → Option Value} {own' frs' : List (Addr × Obj)} (F : Fr g L' s'.heap m') (N : News g L' s'.heap (own' ++ frs')) (ap : Apart own' frs') (SU : SameUp frs frs') (Fs : Frs l frs') (h : P v own' s') : LeaveF g l frs P v s' := ⟨_, _, _, _, F, N, ap, SU, Fs, h⟩
section
variable {prog : Program} {w : World} {A₀ : Around} {E : Value → Shared → Prop} {s' : Shared} {hb h : Heap} {L a e : Addr} {m : Str → Option Value} {name : Str} {scope : Scope} {cd : Value} {Q : Flow → Shared → Prop} {X : String} {l : List Env} {frs new : List (Addr × Obj)}
  {K : Frag} {p : Program} {loose : List Str} {mg mb : Str → Option Value} {x : Str} {T' : String} {b₀ : Stmt} {suite : List Stmt} {pos np : Pos} {rest : List ExceptHandler}
/-- a built-in exception that the interpreter raises, caught by its name in the very frame, below any frames -/
theorem caught_here (hfr : A₀.frames = some l) (Fs : Frs l frs) (hx : Heap.NewExc h s'.heap e X) (F : Fr hb L h m) (N : News hb L h (new ++ frs)) (ap : Apart new frs) (XK : K.In hb) (T : TopRead p loose mg mb hb)
    (ex : nsIn K mainGlobals x = some none) (hv : bootBuiltins x = some (.type T')) (hn : x ≠ "__name__")
    (h1 : subB T' (.type "BaseException") = some true) (h2 : subB ((Manifest.find? T').elim "type" fun y => y.metatype) (.type "tuple") = some false) (h3 : subB X (.type T') = some true)
    (k : ∀ h' frs', SameUp frs frs' → Frs l frs' → Fr hb L h' m → News hb L h' (new ++ frs') → Apart new frs' → wpAny (model prog w) ((A₀.deeper (envOf name scope L a cd)).mark (some (.ref e))) (execs (b₀ :: suite) (envOf name scope L a cd)) Q E { s' with heap := h' })
    (hk : scope.kind = .function) (hxk : (envOf name scope L a cd).kindOf x = some .globalImplicit) (hdb : (x == ("__debug__" : Str)) = false)
    (hE : PassesOwnAt (model prog w) ((A₀.deeper (envOf name scope L a cd)).mark (some (.ref e))) (A₀.deeper (envOf name scope L a cd)) (envOf name scope L a cd) E) :
    wpAny (model prog w) (A₀.deeper (envOf name scope L a cd)) (noteFrame (.ref e) (envOf name scope L a cd))
      (fun _ s₂ => wpAny (model prog w) (A₀.deeper (envOf name scope L a cd)) (setFlight (.ref e) none) (fun _ s₃ =>
        wpAny (model prog w) (A₀.deeper (envOf name scope L a cd)) (handleBy (.ref e) (envOf name scope L a cd) (.ExceptHandler (some (.Name x np)) none (b₀ :: suite) pos :: rest)) Q E s₃) E s₂) E s' := by
  refine TLg.noted_newA (new := new) hfr Fs hx F N (fun q hq hm => ?_) (fun h₁ frs₁ SU Fs₁ H₁ => ?_) hk
  · rcases List.mem_cons.mp hm with z | z
    · exact (N q (List.mem_append_left _ hq)).2.1 z
    · obtain ⟨y, hy, e⟩ := List.mem_map.mp z
      exact ap.at y hy (List.mem_map.mpr ⟨q, hq, e.symm⟩)
  refine H₁.land fun h₂ H₂ => ?_
  refine wpAny_handleBy_builtin (X := X) (T := T') (b := true) (isSubtype_of_subB h1) (isSubtype_of_subB h2) (isSubtype_of_subB h3) (wpAny_passesOwnAt hE (name_B H₂.held.fr XK T ex hv hn ⟨rfl, H₂.isA, ?_⟩ hk hxk hdb))
  rw [if_pos rfl]
  exact H₂.lands fun h' F' N' => wpAny_passesOwnAt hE (k h' frs₁ SU Fs₁ F' N' (Apart.of fun y hy => by
    obtain ⟨z, hz, e⟩ := SU.fwd y hy
    rw [e]; exact ap.at z hz))
end
end
section
abbrev ent (P : Params) (x : Str) (t : Tok) (v : Value) : DictEntry := ⟨PyData.keyHash P x, .str x t, v⟩
/-- the four objects of an LRU or FIFO cache -/
abbrev ordOwn (P : Params) (C : Addr) (oname : Str) (a da dd od : Addr) (n mx : Int) (t1 t2 t3 t4 t5 t6 : Tok) (o1 o2 : Obj) : List (Addr × Obj) :=
  [(a, instObj C da), (da, dictOf [ent P "_Cache__data" t1 (.ref dd), ent P "_Cache__currsize" t2 (.int n t3), ent P "_Cache__maxsize" t4 (.int mx t5), ent P oname t6 (.ref od)] 4), (dd, o1), (od, o2)]
structure OrdAt (a da dd od : Nat) : Prop where
  lo1 : (dd == sysModules) = false
  lo2 : (od == sysModules) = false
  n1 : da < a
  n2 : dd ≠ a
  n3 : od ≠ a
  n4 : dd ≠ da
  n5 : od ≠ da
  n6 : dd ≠ od
def Ord (w : World) (C : Addr) (oname : Str) (a da dd od : Addr) (mx : Int) (kvs ord : List (Int × Value)) (own : List (Addr × Obj)) : Prop :=
  ∃ n t1 t2 t3 t4 t5 t6 o1 o2, own = ordOwn w.params C oname a da dd od n mx t1 t2 t3 t4 t5 t6 o1 o2 ∧ n = kvs.length ∧ o1.IsDictOf (PySem.intKind lawProg w) kvs ∧ o2.IsDictOf (PySem.intKind lawProg w) ord ∧ OrdAt a da dd od
theorem Ord.mk {w : World} {C : Addr} {oname : Str} {a da dd od : Addr} {mx n : Int} {kvs ord : List (Int × Value)} {t1 t2 t3 t4 t5 t6 : Tok} {o1 o2 : Obj} (hn : n = kvs.length) (d1 : o1.IsDictOf (PySem.intKind lawProg w) kvs) (d2 : o2.IsDictOf (PySem.intKind lawProg w) ord) (ha : OrdAt a da dd od) :
    Ord w C oname a da dd od mx kvs ord (ordOwn w.params C oname a da dd od n mx t1 t2 t3 t4 t5 t6 o1 o2) := ⟨_, _, _, _, _, _, _, _, _, rfl, hn, d1, d2, ha⟩
section
variable {prog : Program} {w : World} {K : Type} [DecidableEq K] {knd : KeyKind prog w K} {kvs : List (K × Value)} {k : K} {v : Value} {o : Obj}
theorem dict_nodup (d : o.IsDictOf knd kvs) : (kvs.map (·.1)).Nodup := let ⟨_, _, _, _, _, _, n⟩ := d; n
theorem valueAt_mem : (valueAt kvs k).isSome = true ↔ k ∈ kvs.map (·.1) := by
  unfold valueAt
  rw [Option.isSome_map, List.find?_isSome]
  simp only [decide_eq_true_eq, List.mem_map]
theorem len_without_nodup : ∀ {l : List (K × Value)}, (l.map (·.1)).Nodup → k ∈ l.map (·.1) → (without l k).length + 1 = l.length
  | (x, y) :: l, hn, hk => by
    rw [List.map_cons, List.nodup_cons] at hn
    by_cases e : x = k
    · subst e
      have : without ((x, y) :: l) x = l := by
        have h2 := without_of_not_mem l x hn.1
        unfold without at h2 ⊢
        rw [List.filter_cons_of_neg (by simp)]
        exact h2
      rw [this]; rfl
    · have hk' : k ∈ l.map (·.1) := by
        rw [List.map_cons] at hk
        exact (List.mem_cons.mp hk).resolve_left fun q => e q.symm
      have ih := len_without_nodup hn.2 hk'
      unfold without at ih ⊢
      rw [List.filter_cons_of_pos (by simp [e])]
      simp only [List.length_cons]; omega
theorem len_without (d : o.IsDictOf knd kvs) (hv : (valueAt kvs k).isSome = true) : ((without kvs k).length : Int) = kvs.length - 1 := by
  have := len_without_nodup (dict_nodup d) (valueAt_mem.mp hv); omega
theorem len_stored_new (hv : (valueAt kvs k).isSome = false) : ((stored kvs k v).length : Int) = kvs.length + 1 := by
  rw [stored_absent (by cases h : valueAt kvs k with | none => rfl | some x => rw [h] at hv; cases hv)]; simp
theorem len_stored_old (hv : (valueAt kvs k).isSome = true) : ((stored kvs k v).length : Int) = kvs.length := by
  have h : kvs.any (fun kv => kv.1 = k) = true := by rw [← valueAt_isSome_eq_any]; exact hv
  unfold stored
  simp only [h, if_true, List.length_map]
end
theorem without_len_le {K : Type} [DecidableEq K] (kvs : List (K × Value)) (k : K) : (without kvs k).length ≤ kvs.length := List.length_filter_le _ _
theorem apart_ne {own rest : List (Addr × Obj)} (ap : Apart own rest) {x : Addr × Obj} (hx : x ∈ own) : ∀ p ∈ rest, @Ne Nat p.1 x.1 := fun p hp e => ap.at p hp (List.mem_map.mpr ⟨x, hx, e.symm⟩)
theorem apart4 {p1 p2 p3 p4 : Addr × Obj} {rest : List (Addr × Obj)} (ap : Apart [p1, p2, p3, p4] rest) : (∀ p ∈ rest, @Ne Nat p.1 p1.1) ∧ (∀ p ∈ rest, @Ne Nat p.1 p2.1) ∧ (∀ p ∈ rest, @Ne Nat p.1 p3.1) ∧ (∀ p ∈ rest, @Ne Nat p.1 p4.1) :=
  ⟨apart_ne ap (.head _), apart_ne ap (.tail _ (.head _)), apart_ne ap (.tail _ (.tail _ (.head _))), apart_ne ap (.tail _ (.tail _ (.tail _ (.head _))))⟩
section
section
variable {w : World} {D U : Nat} {f : Addr} {vals : List Value} {Post : Value → List (Addr × Obj) → Prop} {p1 p2 p3 p4 : Addr × Obj}
  {h₀ : Heap} {L : Addr} {m : Str → Option Value} {mean : ExcName → Option Value} {mg mb : Str → Option Value} {s : Shared} {dp un : Nat} {gd : Option (List Code)} {env : Env} {outer : List Env} {frs : List (Addr × Obj)} {Q E : Value → Shared → Prop}
theorem useF4 (S : DoesF w D U f vals [p1, p2, p3, p4] Post) (F : Fr h₀ L s.heap m) (X : (hd.heap_39 w.params).In h₀) (N : News h₀ L s.heap (p1 :: p2 :: p3 :: p4 :: frs)) (ap : Apart [p1, p2, p3, p4] frs) (Fs : Frs outer frs) (T : Top hd.view_39 lawLoose mean mg mb h₀) (hf : env.frame = some L) (hk : env.scope.kind = .function) (hD : dp ≤ D) (hU : un ≤ U)
    (h : ∀ v own' frs' h' tk', Fr h₀ L h' m → News h₀ L h' (own' ++ frs') → Apart own' frs' → SameUp frs frs' → Frs outer frs' → Post v own' → Q v { s with heap := h', toks := tk' }) :
    wpAny (model lawProg w) (aTop dp un gd (some (env :: outer))) (call (.ref f) vals) Q E s := S.use F X N ap Fs T hf hk hD hU h
end
theorem leaveF4 {g : Heap} {l : List Env} {frs : List (Addr × Obj)} {P : Value → List (Addr × Obj) → Shared → Prop} {v : Value} {s' : Shared} {L' : Addr} {m' : Str → Option Value} {p1 p2 p3 p4 : Addr × Obj} {frs' : List (Addr × Obj)} (F : Fr g L' s'.heap m') (N : News g L' s'.heap (p1 :: p2 :: p3 :: p4 :: frs')) (ap : Apart [p1, p2, p3, p4] frs') (SU : SameUp frs frs') (Fs : Frs l frs') (h : P v [p1, p2, p3, p4] s') : LeaveF g l frs P v s' := leaveF_ F N ap SU Fs h
section
variable {prog : Program} {w : World} {A₀ : Around} {E : Value → Shared → Prop} {s' : Shared} {hb h : Heap} {L a e : Addr} {m : Str → Option Value} {name : Str} {scope : Scope} {cd : Value} {Q : Flow → Shared → Prop} {X : String} {l : List Env} {frs : List (Addr × Obj)} {p1 p2 p3 p4 : Addr × Obj}
  {K : Frag} {p : Program} {loose : List Str} {mg mb : Str → Option Value} {x : Str} {T' : String} {b₀ : Stmt} {suite : List Stmt} {pos np : Pos} {rest : List ExceptHandler}
theorem caught_here4 (hfr : A₀.frames = some l) (Fs : Frs l frs) (hx : Heap.NewExc h s'.heap e X) (F : Fr hb L h m) (N : News hb L h (p1 :: p2 :: p3 :: p4 :: frs)) (ap : Apart [p1, p2, p3, p4] frs) (XK : K.In hb) (T : TopRead p loose mg mb hb)
    (ex : nsIn K mainGlobals x = some none) (hv : bootBuiltins x = some (.type T')) (hn : x ≠ "__name__")
    (h1 : subB T' (.type "BaseException") = some true) (h2 : subB ((Manifest.find? T').elim "type" fun y => y.metatype) (.type "tuple") = some false) (h3 : subB X (.type T') = some true)
    (k : ∀ h' frs', SameUp frs frs' → Frs l frs' → Fr hb L h' m → News hb L h' (p1 :: p2 :: p3 :: p4 :: frs') → Apart [p1, p2, p3, p4] frs' → wpAny (model prog w) ((A₀.deeper (envOf name scope L a cd)).mark (some (.ref e))) (execs (b₀ :: suite) (envOf name scope L a cd)) Q E { s' with heap := h' })
    (hk : scope.kind = .function) (hxk : (envOf name scope L a cd).kindOf x = some .globalImplicit) (hdb : (x == ("__debug__" : Str)) = false)
    (hE : PassesOwnAt (model prog w) ((A₀.deeper (envOf name scope L a cd)).mark (some (.ref e))) (A₀.deeper (envOf name scope L a cd)) (envOf name scope L a cd) E) :
    wpAny (model prog w) (A₀.deeper (envOf name scope L a cd)) (noteFrame (.ref e) (envOf name scope L a cd))
      (fun _ s₂ => wpAny (model prog w) (A₀.deeper (envOf name scope L a cd)) (setFlight (.ref e) none) (fun _ s₃ =>
        wpAny (model prog w) (A₀.deeper (envOf name scope L a cd)) (handleBy (.ref e) (envOf name scope L a cd) (.ExceptHandler (some (.Name x np)) none (b₀ :: suite) pos :: rest)) Q E s₃) E s₂) E s' :=
  caught_here (new := [p1, p2, p3, p4]) hfr Fs hx F N ap XK T ex hv hn h1 h2 h3 k hk hxk hdb hE
end
end
theorem own_delItem {M : Model} {A : Around} {E : Value → Shared → Prop} {s : Shared} {K : Frag} {x C L f : Addr} {h₀ : Heap} {m : Str → Option Value} {ox : Obj} {od : Option Obj} {i : Value} {Q : Unit → Shared → Prop}
    (F : Fr h₀ L s.heap m) (X₀ : K.In h₀) (I : InstAt s.heap x ox C od) (hq : noSeq K C = true) (hs : findIn K (.ref C) "__delitem__" = some (some (.ref f))) (hf : isFn K (.ref f) = true)
    (h : wpAny M A (call (.ref f) [.ref x, i]) (fun _ s' => Q () s') E s) : wpAny M A (delItem (.ref x) i) Q E s := by
  have X := X₀.keeps F.keep
  unfold delItem sequenceKey
  refine wpAny_holding (wpAny_bind (wpAny_bind (I.type.here ?_)))
  refine wpAny_bind ((anyM_none X hq).here ?_)
  rw [if_pos (show (!false) = true from rfl)]
  exact wpAny_pure (wpAny_bind (special_fn X I hs (beq_iff_eq.mp hf) (wpAny_mono h (fun _ _ z => wpAny_pure z) fun _ _ z => z)))
theorem key_int {prog : Program} {w : World} {k : Int} {v : Value} (h : (PySem.intKind prog w).is k v = true) : ∃ t, v = .int k t := Value.isInt_shape h
theorem valueAt_head {K : Type} [DecidableEq K] {kvs : List (K × Value)} {k : K} {v : Value} (h : kvs[0]? = some (k, v)) : valueAt kvs k = some v := by
  cases kvs with
  | nil => cases h
  | cons p r => cases h; simp [valueAt]
theorem valueAt_without {K : Type} [DecidableEq K] (k : K) : ∀ kvs : List (K × Value), ∀ k' : K, valueAt (without kvs k) k' = if k' = k then none else valueAt kvs k'
  | [], k' => by simp [without, valueAt]
  | (x, y) :: l, k' => by
    have ih := valueAt_without k l k'
    unfold without valueAt at *
    by_cases e : x = k
    · subst e
      rw [List.filter_cons_of_neg (by simp), ih]
      by_cases e2 : k' = x
      · simp [e2]
      · rw [if_neg e2, if_neg e2, List.find?_cons_of_neg (by simpa using fun q => e2 q.symm)]
    · rw [List.filter_cons_of_pos (by simp [e])]
      by_cases e3 : x = k'
      · subst e3; simp [e]
      · rw [List.find?_cons_of_neg (by simpa using e3), ih, List.find?_cons_of_neg (by simpa using e3)]
theorem valueAt_without_none {K : Type} [DecidableEq K] {kvs : List (K × Value)} {k k0 : K} (h : (valueAt kvs k).isSome = false) : (valueAt (without kvs k0) k).isSome = false := by
  rw [valueAt_without]; split
  · rfl
  · exact h
theorem ite_negB {b : Bool} {A B : Prop} (hb : b = false) (h : B) : if b = true then A else B := by rw [hb]; exact h
theorem is_of {K : Type} [DecidableEq K] {kvs : List (K × Value)} {k : K} {v : Value} (h : valueAt kvs k = some v) : (valueAt kvs k).isSome = true := by rw [h]; rfl
theorem valueAt_stored {K : Type} [DecidableEq K] (kvs : List (K × Value)) (k : K) (v : Value) : valueAt (stored kvs k v) k = some v := by
  cases h : valueAt kvs k with
  | none => rw [stored_absent h]; unfold valueAt at h ⊢; rw [List.find?_append]; simp only [Option.map_eq_none_iff] at h; rw [h]; simp
  | some x =>
    have ha : kvs.any (fun kv => kv.1 = k) = true := by rw [← valueAt_isSome_eq_any, h]; rfl
    unfold stored
    simp only [ha, if_true]
    unfold valueAt at h ⊢
    clear ha
    induction kvs with
    | nil => cases h
    | cons p r ih =>
      rw [List.map_cons]
      by_cases e : p.1 = k
      · simp [e]
      · rw [if_neg e, List.find?_cons_of_neg (by simpa using e)]
        rw [List.find?_cons_of_neg (by simpa using e)] at h
        exact ih h
section
variable {prog : Program} {w : World} {A : Around} {E : Value → Shared → Prop} {s : Shared} {K : Frag} {x C L : Addr} {h₀ : Heap} {m : Str → Option Value} {ox : Obj} {es : List DictEntry} {n : Nat} {name : Str}
theorem findObj_nondata {a g : Value} (hh : hasDictIn K C = true) (ha : findIn K (.ref C) name = some (some a)) (hg : specialIn K a "__get__" = some (some g)) (ht : takesIn K a = some false) (hc : copiedNames.contains name = false) (hl : getL name es = some none) :
    findObj K C (some (dictOf es n)) name = some (.bind g a) := by
  obtain ⟨cd, hc', hd⟩ := any_some hh
  unfold findObj
  have ho : PySem.W.ownOf cd (some (dictOf es n)) name = some none := by unfold PySem.W.ownOf; rw [if_pos hd]; exact hl
  rw [hc', Option.bind_some, ha, Option.bind_some]
  simp only [hg, Option.bind_some, ht, ho, hc, Bool.false_and, Bool.false_eq_true, if_false]
theorem get_sm {expr : Bool} {Q : Value → Shared → Prop} {p : Addr} {f : Value} {rest : List Value} (F : Fr h₀ L s.heap m) (X₀ : K.In h₀) (I : InstAt s.heap x ox C (some (dictOf es n))) (hg : plainGet K C name = true) (hh : hasDictIn K C = true)
    (ha : findIn K (.ref C) name = some (some (.ref p))) (hn : specialIn K (.ref p) "__get__" = some (some (.builtin "staticmethod.__get__"))) (ht : takesIn K (.ref p) = some false) (hp : recIn K p "staticmethod" = some (f :: rest))
    (hc : copiedNames.contains name = false) (hl : getL name es = some none) (hv : handedIn f = true) (h : Q f { s with toks := s.toks + 1 }) : wpAny (model prog w) A (getAttr (.ref x) name expr) Q E s :=
  get_bind (X₀.keeps F.keep) I (plainGet_of hg).1 (findObj_nondata hh ha hn ht hc hl) (plainGet_of hg).2 (wpAny_call (sm_get (s := { s with toks := s.toks + 1 }) (X₀.keeps F.keep) hp (handed_on hv h)))
end
theorem news_sub {h₀ h : Heap} {L : Addr} {l l' : List (Addr × Obj)} (N : News h₀ L h l) (k : ∀ p ∈ l', p ∈ l) : News h₀ L h l' := fun p hp => N p (k p hp)
theorem news_init4 {h₀ h : Heap} {L : Addr} {p1 p2 p3 p4 : Addr × Obj} (N : News h₀ L h [p4, p3, p1, p2]) : News h₀ L h [p1, p2, p3, p4] := news_sub N (by simp only [List.mem_cons, List.not_mem_nil, or_false]; intro p hp; rcases hp with h | h | h | h <;> simp [h])
theorem Does.ex {w : World} {D U : Nat} {f : Addr} {vals : List Value} {own : List (Addr × Obj)} {P P' : Value → List (Addr × Obj) → Prop} (S : Does w D U f vals own P) (h : ∀ v o, P v o → P' v o) : Does w D U f vals own P' := fun _ _ _ _ _ _ _ _ _ _ _ _ F X N T hD hU k => S _ _ _ _ _ _ _ _ _ _ _ _ F X N T hD hU fun v o h' tk' F' N' Z p => k v o h' tk' F' N' Z (h v o p)
theorem DoesF.ex {w : World} {D U : Nat} {f : Addr} {vals : List Value} {own : List (Addr × Obj)} {P P' : Value → List (Addr × Obj) → Prop} (S : DoesF w D U f vals own P) (h : ∀ v o, P v o → P' v o) : DoesF w D U f vals own P' := fun _ _ _ _ _ _ _ _ _ _ _ _ _ _ _ _ F X N ap ap2 Fs hf hk T hD hU k => S _ _ _ _ _ _ _ _ _ _ _ _ _ _ _ _ F X N ap ap2 Fs hf hk T hD hU fun v o frs' h' tk' F' N' a b c d p => k v o frs' h' tk' F' N' a b c d (h v o p)
theorem Does.dp {w : World} {D U D' U' : Nat} {f : Addr} {vals : List Value} {own : List (Addr × Obj)} {P : Value → List (Addr × Obj) → Prop} (S : Does w D U f vals own P) (hD : D' ≤ D) (hU : U' ≤ U) : Does w D' U' f vals own P := fun _ _ _ _ _ _ _ _ _ _ _ _ F X N T h1 h2 k => S _ _ _ _ _ _ _ _ _ _ _ _ F X N T (Nat.le_trans h1 hD) (Nat.le_trans h2 hU) k
/-- a link of an LFU cache -/
abbrev lnk (ldx : Addr) (c : Int) (t : Tok) (kd nx pv : Addr) : Obj := ⟨.ref 917, some ldx, .plain, #[some (.int c t), some (.ref kd), some (.ref nx), some (.ref pv)]⟩
abbrev lfuBase (P : Params) (a da dd ld r : Addr) (n mx : Int) (t1 t2 t3 t4 t5 t6 t7 : Tok) (o1 o3 : Obj) : List (Addr × Obj) :=
  [(a, instObj 979 da), (da, dictOf [ent P "_Cache__data" t1 (.ref dd), ent P "_Cache__currsize" t2 (.int n t3), ent P "_Cache__maxsize" t4 (.int mx t5), ent P "_LFUCache__root" t6 (.ref r), ent P "_LFUCache__links" t7 (.ref ld)] 5), (dd, o1), (ld, o3)]
abbrev lnk3 (n : Addr) (nd : Addr) (c : Int) (t : Tok) (nk nx pv : Addr) (o : Obj) : List (Addr × Obj) := [(n, lnk nd c t nk nx pv), (nd, dictOf [] 0), (nk, o)]
/-- two addresses differ (a word that omega does not read) -/
structure Na (a b : Nat) : Prop where
  ne : a ≠ b
def NaAll (a : Nat) : List Nat → Prop
  | [] => True
  | b :: l => Na a b ∧ NaAll a l
def Nas : List Nat → Prop
  | [] => True
  | a :: l => NaAll a l ∧ Nas l
theorem naAll_of {a : Nat} : ∀ {l : List Nat}, a ∉ l → NaAll a l
  | [], _ => trivial
  | _ :: _, h => ⟨⟨fun e => h (e ▸ .head _)⟩, naAll_of fun q => h (.tail _ q)⟩
theorem nas_of : ∀ {l : List Nat}, l.Nodup → Nas l
  | [], _ => trivial
  | _ :: _, h => ⟨naAll_of (List.nodup_cons.mp h).1, nas_of (List.nodup_cons.mp h).2⟩
theorem NaAll.mem {a : Nat} : ∀ {l : List Nat}, NaAll a l → ∀ b ∈ l, a ≠ b
  | _ :: _, h, _, .head _ => h.1.ne
  | _ :: _, h, b, .tail _ m => h.2.mem b m
theorem Nas.nodup : ∀ {l : List Nat}, Nas l → l.Nodup
  | [], _ => .nil
  | _ :: _, h => List.nodup_cons.mpr ⟨fun q => h.1.mem _ q rfl, h.2.nodup⟩
theorem apart_of_nodup {own rest : List (Addr × Obj)} (h : ((own ++ rest).map (·.1)).Nodup) : Apart own rest := Apart.of fun p hp q => by
  rw [List.map_append, List.nodup_append] at h
  exact h.2.2 _ q _ (List.mem_map_of_mem hp) rfl
theorem apart_of_nas {own rest : List (Addr × Obj)} {l : List Nat} (h : Nas l) (e : (own ++ rest).map (·.1) = l) : Apart own rest := apart_of_nodup (e ▸ h.nodup)
theorem apart_na {own rest : List (Addr × Obj)} {x y : Nat} {ox oy : Obj} (ap : Apart own rest) (hx : (x, ox) ∈ own) (hy : (y, oy) ∈ rest) : x ≠ y := fun e => ap.at _ hy (List.mem_map.mpr ⟨_, hx, e⟩)
section
variable {w : World} {D U : Nat} {f : Addr} {vals : List Value} {Post : Value → List (Addr × Obj) → Prop}
  {h₀ : Heap} {L : Addr} {m : Str → Option Value} {mean : ExcName → Option Value} {mg mb : Str → Option Value} {s : Shared} {dp un : Nat} {gd : Option (List Code)} {fr : Option (List Env)} {Q E : Value → Shared → Prop}
theorem Does.use0 {rest : List (Addr × Obj)} (S : Does w D U f vals [] Post) (F : Fr h₀ L s.heap m) (X : (hd.heap_39 w.params).In h₀) (N : News h₀ L s.heap rest) (T : Top hd.view_39 lawLoose mean mg mb h₀) (hD : dp ≤ D) (hU : un ≤ U)
    (h : ∀ v own' h' tk', Fr h₀ L h' m → News h₀ L h' (own' ++ rest) → Apart own' rest → Post v own' → Q v { s with heap := h', toks := tk' }) :
    wpAny (model lawProg w) (aTop dp un gd fr) (call (.ref f) vals) Q E s := S.useR (rest := rest) F X N (fun _ _ q => by cases q) T hD hU h
theorem Does.use3 {q1 q2 q3 : Addr × Obj} {rest : List (Addr × Obj)} (S : Does w D U f vals [q1, q2, q3] Post) (F : Fr h₀ L s.heap m) (X : (hd.heap_39 w.params).In h₀) (N : News h₀ L s.heap (q1 :: q2 :: q3 :: rest)) (ap : Apart [q1, q2, q3] rest) (T : Top hd.view_39 lawLoose mean mg mb h₀) (hD : dp ≤ D) (hU : un ≤ U)
    (h : ∀ v own' h' tk', Fr h₀ L h' m → News h₀ L h' (own' ++ rest) → Apart own' rest → Post v own' → Q v { s with heap := h', toks := tk' }) :
    wpAny (model lawProg w) (aTop dp un gd fr) (call (.ref f) vals) Q E s := S.useR (rest := rest) F X N ap T hD hU h
theorem Does.use4 {q1 q2 q3 q4 : Addr × Obj} {rest : List (Addr × Obj)} (S : Does w D U f vals [q1, q2, q3, q4] Post) (F : Fr h₀ L s.heap m) (X : (hd.heap_39 w.params).In h₀) (N : News h₀ L s.heap (q1 :: q2 :: q3 :: q4 :: rest)) (ap : Apart [q1, q2, q3, q4] rest) (T : Top hd.view_39 lawLoose mean mg mb h₀) (hD : dp ≤ D) (hU : un ≤ U)
    (h : ∀ v own' h' tk', Fr h₀ L h' m → News h₀ L h' (own' ++ rest) → Apart own' rest → Post v own' → Q v { s with heap := h', toks := tk' }) :
    wpAny (model lawProg w) (aTop dp un gd fr) (call (.ref f) vals) Q E s := S.useR (rest := rest) F X N ap T hD hU h
theorem Does.use6 {q1 q2 q3 q4 q5 q6 : Addr × Obj} {rest : List (Addr × Obj)} (S : Does w D U f vals [q1, q2, q3, q4, q5, q6] Post) (F : Fr h₀ L s.heap m) (X : (hd.heap_39 w.params).In h₀) (N : News h₀ L s.heap (q1 :: q2 :: q3 :: q4 :: q5 :: q6 :: rest)) (ap : Apart [q1, q2, q3, q4, q5, q6] rest) (T : Top hd.view_39 lawLoose mean mg mb h₀) (hD : dp ≤ D) (hU : un ≤ U)
    (h : ∀ v own' h' tk', Fr h₀ L h' m → News h₀ L h' (own' ++ rest) → Apart own' rest → Post v own' → Q v { s with heap := h', toks := tk' }) :
    wpAny (model lawProg w) (aTop dp un gd fr) (call (.ref f) vals) Q E s := S.useR (rest := rest) F X N ap T hD hU h
end
abbrev lfuAt (P : Params) (a da dd ld r : Addr) (n mx : Int) (t1 t2 t3 t4 t5 t6 t7 : Tok) : List (Addr × Obj) :=
  [(a, instObj 979 da), (da, dictOf [ent P "_Cache__data" t1 (.ref dd), ent P "_Cache__currsize" t2 (.int n t3), ent P "_Cache__maxsize" t4 (.int mx t5), ent P "_LFUCache__root" t6 (.ref r), ent P "_LFUCache__links" t7 (.ref ld)] 5)]
abbrev lfuOwn3 (P : Params) (a da dd ld r : Addr) (n mx : Int) (t1 t2 t3 t4 t5 t6 t7 : Tok) (o1 : Obj) : List (Addr × Obj) :=
  [(a, instObj 979 da), (da, dictOf [ent P "_Cache__data" t1 (.ref dd), ent P "_Cache__currsize" t2 (.int n t3), ent P "_Cache__maxsize" t4 (.int mx t5), ent P "_LFUCache__root" t6 (.ref r), ent P "_LFUCache__links" t7 (.ref ld)] 5), (dd, o1)]
/-- what every cache has, of an LFU cache: its object, its attributes, its data -/
def LfuB (w : World) (a da dd ld r : Nat) (mx : Int) (kvs : List (Int × Value)) (own : List (Addr × Obj)) : Prop :=
  ∃ n t1 t2 t3 t4 t5 t6 t7 o1, own = lfuOwn3 w.params a da dd ld r n mx t1 t2 t3 t4 t5 t6 t7 o1 ∧ n = kvs.length ∧ o1.IsDictOf (PySem.intKind lawProg w) kvs ∧ (dd == sysModules) = false ∧ Nas [a, da, dd]
theorem LfuB.mk {w : World} {a da dd ld r : Nat} {mx n : Int} {kvs : List (Int × Value)} {t1 t2 t3 t4 t5 t6 t7 : Tok} {o1 : Obj} (hn : n = kvs.length) (d1 : o1.IsDictOf (PySem.intKind lawProg w) kvs) (lo : (dd == sysModules) = false) (ha : Nas [a, da, dd]) :
    LfuB w a da dd ld r mx kvs (lfuOwn3 w.params a da dd ld r n mx t1 t2 t3 t4 t5 t6 t7 o1) := ⟨_, _, _, _, _, _, _, _, _, rfl, hn, d1, lo, ha⟩
theorem news_rot3 {h₀ h : Heap} {L : Addr} {q1 q2 q3 : Addr × Obj} {rest : List (Addr × Obj)} (N : News h₀ L h (q1 :: q2 :: q3 :: rest)) : News h₀ L h (rest ++ [q1, q2, q3]) := news_sub N fun p hp => (List.mem_append.mp hp).elim (fun z => .tail _ (.tail _ (.tail _ z))) fun z => by
  simp only [List.mem_cons, List.not_mem_nil, or_false] at z
  rcases z with z | z | z <;> simp [z]
theorem apart_dirty {own own' rest : List (Addr × Obj)} (ap : Apart own rest) (e : own'.map (·.1) = own.map (·.1)) : Apart own' rest := fun p hp => e ▸ ap p hp
theorem apart_drop {own l : List (Addr × Obj)} {x : Addr × Obj} (ap : Apart own (x :: l)) : Apart own l := fun b hb => ap b (by rw [List.map_cons]; exact .tail _ hb)
theorem apart_three {p1 p2 p3 : Addr × Obj} {rest : List (Addr × Obj)} (ap : Apart [p1, p2, p3] rest) : (∀ p ∈ rest, @Ne Nat p.1 p1.1) ∧ (∀ p ∈ rest, @Ne Nat p.1 p2.1) ∧ (∀ p ∈ rest, @Ne Nat p.1 p3.1) :=
  ⟨apart_ne ap (.head _), apart_ne ap (.tail _ (.head _)), apart_ne ap (.tail _ (.tail _ (.head _)))⟩
/-- a link: its address, its __dict__'s, its keys' dict; its count; its keys -/
structure Lk where
  l : Nat
  ld : Nat
  kd : Nat
  c : Int
  ks : List Int
def okv (ks : List Int) : List (Int × Value) := ks.map fun k => (k, Value.none)
def hdA (r : Nat) : List Lk → Nat
  | [] => r
  | n :: _ => n.l
def lsA (p : Nat) : List Lk → Nat
  | [] => p
  | n :: ch => lsA n.l ch
/-- the links of a ring from behind p up to before q -/
def Seg (w : World) (q : Nat) : Nat → List Lk → List (Addr × Obj) → Prop
  | _, [], own => own = []
  | p, n :: ch, own => ∃ t o own', own = (n.l, lnk n.ld n.c t n.kd (hdA q ch) p) :: (n.ld, dictOf [] 0) :: (n.kd, o) :: own' ∧ o.IsDictOf (PySem.intKind lawProg w) (okv n.ks) ∧ (n.kd == sysModules) = false ∧ Seg w q n.l ch own'
def LfuIs (w : World) (a da dd ld r : Nat) (mx : Int) (kvs lk : List (Int × Value)) (ch : List Lk) (own : List (Addr × Obj)) : Prop :=
  ∃ (n : Int) (t1 t2 t3 t4 t5 t6 t7 : Tok) (o1 o3 : Obj) (rd rk : Nat) (tr : Tok) (seg : List (Addr × Obj)), own = lfuOwn3 w.params a da dd ld r n mx t1 t2 t3 t4 t5 t6 t7 o1 ++ (ld, o3) :: (r, lnk rd 0 tr rk (hdA r ch) (lsA r ch)) :: (rd, dictOf [] 0) :: seg ∧
    n = kvs.length ∧ o1.IsDictOf (PySem.intKind lawProg w) kvs ∧ o3.IsDictOf (PySem.intKind lawProg w) lk ∧ (dd == sysModules) = false ∧ (ld == sysModules) = false ∧ Seg w r r ch seg ∧ (own.map (·.1)).Nodup
theorem LfuIs.mk {w : World} {a da dd ld r : Nat} {mx n : Int} {kvs lk : List (Int × Value)} {ch : List Lk} {t1 t2 t3 t4 t5 t6 t7 : Tok} {o1 o3 : Obj} {rd rk : Nat} {tr : Tok} {seg : List (Addr × Obj)}
    (hn : n = kvs.length) (d1 : o1.IsDictOf (PySem.intKind lawProg w) kvs) (d3 : o3.IsDictOf (PySem.intKind lawProg w) lk) (lo1 : (dd == sysModules) = false) (lo3 : (ld == sysModules) = false) (S : Seg w r r ch seg)
    (nd : ((lfuOwn3 w.params a da dd ld r n mx t1 t2 t3 t4 t5 t6 t7 o1 ++ (ld, o3) :: (r, lnk rd 0 tr rk (hdA r ch) (lsA r ch)) :: (rd, dictOf [] 0) :: seg).map (·.1)).Nodup) :
    LfuIs w a da dd ld r mx kvs lk ch (lfuOwn3 w.params a da dd ld r n mx t1 t2 t3 t4 t5 t6 t7 o1 ++ (ld, o3) :: (r, lnk rd 0 tr rk (hdA r ch) (lsA r ch)) :: (rd, dictOf [] 0) :: seg) := ⟨_, _, _, _, _, _, _, _, _, _, _, _, _, _, rfl, hn, d1, d3, lo1, lo3, S, nd⟩
theorem nodup_pre {pre rest : List (Addr × Obj)} (h : ((pre ++ rest).map (·.1)).Nodup) : Nas (pre.map (·.1)) ∧ Apart pre rest := ⟨nas_of (by rw [List.map_append, List.nodup_append] at h; exact h.1), apart_of_nodup h⟩
theorem okv_stored {ks : List Int} {k : Int} (h : k ∉ ks) : stored (okv ks) k .none = okv (ks ++ [k]) := by
  rw [stored_absent (by cases e : valueAt (okv ks) k with
    | none => rfl
    | some x => exact absurd (by simpa [okv] using valueAt_mem.mp (show (valueAt (okv ks) k).isSome = true by rw [e]; rfl)) h)]
  simp [okv]
/-- a word at which the walk stops -/
structure Done (P : Prop) : Prop where
  p : P
theorem news_insM {h₀ h : Heap} {L : Addr} {p1 p2 p3 a1 a2 a3 a4 a5 a6 : Addr × Obj} {l : List (Addr × Obj)} (N : News h₀ L h (p1 :: p2 :: p3 :: a1 :: a2 :: a3 :: a4 :: a5 :: a6 :: l)) : News h₀ L h (a1 :: a2 :: a3 :: a4 :: a5 :: a6 :: p2 :: p3 :: p1 :: l) := news_sub N fun p hp => by
  simp only [List.mem_cons] at hp ⊢
  rcases hp with h | h | h | h | h | h | h | h | h | h <;> simp [h]
theorem nodup_insM {a1 a2 a3 a4 a5 a6 y yd yk : Nat} {l : List Nat} (h : (a1 :: a2 :: a3 :: a4 :: a5 :: a6 :: l).Nodup) (ha : ∀ b ∈ a1 :: a2 :: a3 :: a4 :: a5 :: a6 :: l, b ∉ [yk, y, yd]) (h1 : yk ≠ y) (h2 : yk ≠ yd) (h3 : yd ≠ y) : (a1 :: a2 :: a3 :: a4 :: a5 :: a6 :: y :: yd :: yk :: l).Nodup := by
  rw [show (a1 :: a2 :: a3 :: a4 :: a5 :: a6 :: l) = [a1, a2, a3, a4, a5, a6] ++ l from rfl, List.nodup_append] at h
  rw [show (a1 :: a2 :: a3 :: a4 :: a5 :: a6 :: y :: yd :: yk :: l) = [a1, a2, a3, a4, a5, a6] ++ ([y, yd, yk] ++ l) from rfl, List.nodup_append, List.nodup_append]
  have hm : ∀ b ∈ [y, yd, yk], b ∈ [yk, y, yd] := fun b hb => by simp only [List.mem_cons, List.not_mem_nil, or_false] at hb ⊢; rcases hb with e | e | e <;> simp [e]
  refine ⟨h.1, ⟨by simp [h1.symm, h2.symm, h3.symm], h.2.1, fun b hb c hc e => ha c (by rw [show (a1 :: a2 :: a3 :: a4 :: a5 :: a6 :: l) = [a1, a2, a3, a4, a5, a6] ++ l from rfl]; exact List.mem_append_right _ hc) (e ▸ hm b hb)⟩, fun b hb c hc e => ?_⟩
  rcases List.mem_append.mp hc with hc | hc
  · exact ha b (by rw [show (a1 :: a2 :: a3 :: a4 :: a5 :: a6 :: l) = [a1, a2, a3, a4, a5, a6] ++ l from rfl]; exact List.mem_append_left _ hb) (e ▸ hm c hc)
  · exact h.2.2 b hb c hc e
end
section
theorem Apart.symm {a b : List (Addr × Obj)} (h : Apart a b) : Apart b a := fun x hx hy => h x hy hx
theorem Apart.mono {a b a' b' : List (Addr × Obj)} (h : Apart a b) (ha : ∀ p ∈ a', p ∈ a) (hb : ∀ p ∈ b', p ∈ b) : Apart a' b' := fun x hx hy => by
  obtain ⟨p, hp, rfl⟩ := List.mem_map.mp hx
  obtain ⟨q, hq, e⟩ := List.mem_map.mp hy
  exact h _ (List.mem_map_of_mem (hb p hp)) (e ▸ List.mem_map_of_mem (ha q hq))
theorem apart_flatten {a : List (Addr × Obj)} {bs : List (List (Addr × Obj))} (h : ∀ b ∈ bs, Apart a b) : Apart a bs.flatten := Apart.of fun p hp => by
  obtain ⟨b, hb, hp⟩ := List.mem_flatten.mp hp
  exact (h b hb).at p hp
theorem apart_ofNe {a b : List (Addr × Obj)} (h : ∀ p ∈ a, ∀ q ∈ b, p.1 ≠ q.1) : Apart a b := Apart.of fun q hq z => by
  obtain ⟨p, hp, e⟩ := List.mem_map.mp z
  exact h p hp q hq e
/-- the made objects, in blocks that lie apart -/
def Blk (h₀ : Heap) (L : Addr) (h : Heap) (bs : List (List (Addr × Obj))) : Prop := News h₀ L h bs.flatten ∧ bs.Pairwise Apart
section
variable {h₀ h h' : Heap} {L : Addr} {bs bs' pre post : List (List (Addr × Obj))} {b b' own : List (Addr × Obj)}
theorem mem_mid {p : Addr × Obj} (hp : p ∈ b) : p ∈ (pre ++ b :: post).flatten := List.mem_flatten.mpr ⟨b, List.mem_append_right _ (.head _), hp⟩
theorem mem_off {p : Addr × Obj} (hp : p ∈ (pre ++ post).flatten) : p ∈ (pre ++ b :: post).flatten := by
  obtain ⟨c, hc, hp⟩ := List.mem_flatten.mp hp
  refine List.mem_flatten.mpr ⟨c, ?_, hp⟩
  rcases List.mem_append.mp hc with h | h
  · exact List.mem_append_left _ h
  · exact List.mem_append_right _ (.tail _ h)
theorem mem_cases {p : Addr × Obj} (hp : p ∈ (pre ++ b :: post).flatten) : p ∈ b ∨ p ∈ (pre ++ post).flatten := by
  obtain ⟨c, hc, hq⟩ := List.mem_flatten.mp hp
  rcases List.mem_append.mp hc with h | h
  · exact .inr (List.mem_flatten.mpr ⟨c, List.mem_append_left _ h, hq⟩)
  · rcases List.mem_cons.mp h with e | h
    · exact .inl (e ▸ hq)
    · exact .inr (List.mem_flatten.mpr ⟨c, List.mem_append_right _ h, hq⟩)
theorem Blk.perm (B : Blk h₀ L h bs) (p : bs.Perm bs') : Blk h₀ L h bs' := ⟨fun q hq => B.1 q (by
  obtain ⟨l, hl, hq⟩ := List.mem_flatten.mp hq
  exact List.mem_flatten.mpr ⟨l, p.mem_iff.mpr hl, hq⟩), (p.pairwise_iff fun h => h.symm).mp B.2⟩
theorem Blk.front (B : Blk h₀ L h (pre ++ b :: post)) : Blk h₀ L h (b :: (pre ++ post)) := B.perm List.perm_middle
theorem Blk.back (B : Blk h₀ L h (b :: (pre ++ post))) : Blk h₀ L h (pre ++ b :: post) := B.perm List.perm_middle.symm
theorem Blk.apartAll (B : Blk h₀ L h (b :: bs)) : Apart b bs.flatten := apart_flatten fun c hc => (List.pairwise_cons.mp B.2).1 c hc
theorem Blk.off (B : Blk h₀ L h (pre ++ b :: post)) : Apart b (pre ++ post).flatten := B.front.apartAll
theorem Blk.tail (B : Blk h₀ L h (b :: bs)) : Blk h₀ L h bs := ⟨fun p hp => B.1 p (List.mem_append_right _ hp), (List.pairwise_cons.mp B.2).2⟩
theorem Blk.drop (B : Blk h₀ L h (pre ++ b :: post)) : Blk h₀ L h (pre ++ post) := B.front.tail
theorem Blk.cons (B : Blk h₀ L h bs) (N : News h₀ L h' (b :: bs).flatten) (ap : Apart b bs.flatten) : Blk h₀ L h' (b :: bs) :=
  ⟨N, List.pairwise_cons.mpr ⟨fun c hc => ap.mono (fun _ x => x) fun p hp => List.mem_flatten.mpr ⟨c, hc, hp⟩, B.2⟩⟩
theorem Blk.put (B : Blk h₀ L h (pre ++ b :: post)) (N : News h₀ L h' (pre ++ b' :: post).flatten) (ap : Apart b' (pre ++ post).flatten) : Blk h₀ L h' (pre ++ b' :: post) :=
  Blk.back (B.drop.cons (fun p hp => N p (by
    rcases List.mem_append.mp hp with h | h
    · exact mem_mid h
    · exact mem_off h)) ap)
theorem Blk.sub (B : Blk h₀ L h (pre ++ b :: post)) (k : ∀ p ∈ b', p ∈ b) : Blk h₀ L h (pre ++ b' :: post) :=
  B.put (fun p hp => by
    rcases mem_cases hp with h | h
    · exact B.1 p (mem_mid (k p h))
    · exact B.1 p (mem_off h)) (B.off.mono k fun _ x => x)
theorem Blk.keepFrom (B : Blk h₀ L h bs) (N : News h₀ L h' bs.flatten) : Blk h₀ L h' bs := ⟨N, B.2⟩
theorem Blk.redo (B : Blk h₀ L h (pre ++ b :: post)) (N : News h₀ L h' (pre ++ b' :: post).flatten) (e : b'.map (·.1) = b.map (·.1)) : Blk h₀ L h' (pre ++ b' :: post) :=
  B.put N (fun x hx hy => B.off x hx (e ▸ hy))
theorem Blk.nxt {a : List (Addr × Obj)} (B : Blk h₀ L h (pre ++ a :: post)) : Blk h₀ L h ((pre ++ [a]) ++ post) := by rw [List.append_assoc]; exact B
theorem Blk.prv {a : List (Addr × Obj)} (B : Blk h₀ L h ((pre ++ [a]) ++ post)) : Blk h₀ L h (pre ++ a :: post) := by rw [List.append_assoc] at B; exact B
theorem Blk.mem (B : Blk h₀ L h (pre ++ b :: post)) : News h₀ L h b := fun p hp => B.1 p (mem_mid hp)
theorem Blk.ofFresh (N : News h₀ L h' (b :: bs).flatten) (B : Blk h₀ L h bs) (hl : ∀ p ∈ b, ∀ q ∈ bs.flatten, q.1 < p.1) : Blk h₀ L h' (b :: bs) :=
  B.cons N (apart_ofNe fun p hp q hq => (Nat.ne_of_lt (hl p hp q hq)).symm)
end
section
variable {w : World} {D U : Nat} {f : Addr} {vals : List Value} {own : List (Addr × Obj)} {pre post : List (List (Addr × Obj))} {Post : Value → List (Addr × Obj) → Prop}
  {h₀ : Heap} {L : Addr} {m : Str → Option Value} {mean : ExcName → Option Value} {mg mb : Str → Option Value} {s : Shared} {dp un : Nat} {gd : Option (List Code)} {fr : Option (List Env)} {env : Env} {Q E : Value → Shared → Prop}
theorem blk_useF (S : DoesF w D U f vals own Post) (F : Fr h₀ L s.heap m) (X : (hd.heap_39 w.params).In h₀) (B : Blk h₀ L s.heap (pre ++ own :: post)) (T : Top hd.view_39 lawLoose mean mg mb h₀) (hf : env.frame = some L) (hk : env.scope.kind = .function) (hD : dp ≤ D) (hU : un ≤ U)
    (h : ∀ v own' h' tk', Fr h₀ L h' m → Blk h₀ L h' (pre ++ own' :: post) → Post v own' → Q v { s with heap := h', toks := tk' }) :
    wpAny (model lawProg w) (aTop dp un gd (some (env :: []))) (call (.ref f) vals) Q E s := by
  have B' := B.front
  refine S _ _ _ _ _ _ _ _ _ _ _ [] [] (pre ++ post).flatten _ _ F X B'.1 B'.apartAll (fun _ _ h => by cases h) trivial hf hk T hD hU fun v own' frs' h' tk' F' N' ap' _ SU Fs' p => ?_
  have e : frs' = [] := by
    have := sameUp_addrs SU
    cases frs' with
    | nil => rfl
    | cons a b => cases this
  subst e
  exact h v own' h' tk' F' (Blk.back (B'.tail.cons N' ap')) p
theorem blk_use (S : Does w D U f vals own Post) (F : Fr h₀ L s.heap m) (X : (hd.heap_39 w.params).In h₀) (B : Blk h₀ L s.heap (pre ++ own :: post)) (T : Top hd.view_39 lawLoose mean mg mb h₀) (hD : dp ≤ D) (hU : un ≤ U)
    (h : ∀ v own' h' tk', Fr h₀ L h' m → Blk h₀ L h' (pre ++ own' :: post) → Post v own' → Q v { s with heap := h', toks := tk' }) :
    wpAny (model lawProg w) (aTop dp un gd fr) (call (.ref f) vals) Q E s := by
  have B' := B.front
  exact S.useR F X B'.1 B'.apartAll T hD hU fun v own' h' tk' F' N' ap' p => h v own' h' tk' F' (Blk.back (B'.tail.cons N' ap')) p
theorem blk_new {bs : List (List (Addr × Obj))} (S : Does w D U f vals [] Post) (F : Fr h₀ L s.heap m) (X : (hd.heap_39 w.params).In h₀) (B : Blk h₀ L s.heap bs) (T : Top hd.view_39 lawLoose mean mg mb h₀) (hD : dp ≤ D) (hU : un ≤ U)
    (h : ∀ v own' h' tk', Fr h₀ L h' m → Blk h₀ L h' (own' :: bs) → Post v own' → Q v { s with heap := h', toks := tk' }) :
    wpAny (model lawProg w) (aTop dp un gd fr) (call (.ref f) vals) Q E s :=
  S.use0 F X B.1 T hD hU fun v own' h' tk' F' N' ap' p => h v own' h' tk' F' (B.cons N' ap') p
end
end
section
inductive Told where
  | nil
  | one (v : Option Value)
  | pair (k : Int) (v : Value)
def ToldIs : Told → Value → List (Addr × Obj) → Prop
  | .nil, r, X => ∃ R, r = .ref R ∧ X = [(R, PySem.W.listOf #[] 0)]
  | .one (some v), r, X => ∃ R, r = .ref R ∧ X = [(R, PySem.W.listOf #[v] 0)]
  | .one none, r, X => ∃ R t, r = .ref R ∧ X = [(R, PySem.W.listOf #[.str "none" t] 0)]
  | .pair k v, r, X => ∃ R T t, r = .ref R ∧ X = [(R, PySem.W.listOf #[.ref T] 0), (T, { cls := .type "tuple", data := .seq #[.int k t, v] })]
def IsI (v : Value) : Prop := ∃ i t, v = .int i t
def ToldOk : Told → Prop
  | .nil => True
  | .one none => True
  | .one (some v) => IsI v
  | .pair _ v => IsI v
theorem told_reads {td : Told} (ok : ToldOk td) : ∃ d, SeqAt.shaped d = true ∧ PyData.eqv d d = true ∧ ∀ r X, ToldIs td r X → ∀ h : Heap, (∀ p ∈ X, h.get? p.1 = some p.2) → ∃ as, Reads h r d as := by
  cases td with
  | nil =>
    refine ⟨.list [], rfl, rfl, ?_⟩
    rintro r X ⟨R, rfl, rfl⟩ h hX
    exact ⟨_, .list (hX _ (.head _)) rfl rfl .nil⟩
  | one o =>
    cases o with
    | none =>
      refine ⟨.list [.str "none"], by decide +kernel, by decide +kernel, ?_⟩
      rintro r X ⟨R, t, rfl, rfl⟩ h hX
      exact ⟨_, .list (hX _ (.head _)) rfl rfl (.cons (.str _ _) .nil)⟩
    | some v =>
      obtain ⟨i, t, rfl⟩ := ok
      refine ⟨.list [.int i], by rfl, by simp [PyData.eqv, PyData.eqvAll], ?_⟩
      rintro r X ⟨R, rfl, rfl⟩ h hX
      exact ⟨_, .list (hX _ (.head _)) rfl rfl (.cons (.int _ _) .nil)⟩
  | pair k v =>
    obtain ⟨i, t, rfl⟩ := ok
    refine ⟨.list [.tuple [.int k, .int i]], by rfl, by simp [PyData.eqv, PyData.eqvAll], ?_⟩
    rintro r X ⟨R, T, t, rfl, rfl⟩ h hX
    exact ⟨_, .list (hX _ (.head _)) rfl rfl (.cons (.tuple (hX _ (.tail _ (.head _))) rfl rfl (.cons (.int _ _) (.cons (.int _ _) .nil))) .nil)⟩
section
variable {prog : Program} {w : World} {A : Around} {E : Value → Shared → Prop} {s : Shared} {Q : Value → Shared → Prop}
theorem ne_told {td : Told} {r1 r2 : Value} {X1 X2 : List (Addr × Obj)} (ok : ToldOk td) (h1 : ToldIs td r1 X1) (h2 : ToldIs td r2 X2) (n1 : ∀ p ∈ X1, s.heap.get? p.1 = some p.2) (n2 : ∀ p ∈ X2, s.heap.get? p.1 = some p.2)
    (hu : A.units + 64 < cLine) (h : Q (.bool false) s) : wpAny (model prog w) A (compareOp .NotEq r1 r2) Q E s := by
  obtain ⟨d, hs, he, hr⟩ := told_reads ok
  obtain ⟨as, ra⟩ := hr _ _ h1 _ n1
  obtain ⟨bs, rb⟩ := hr _ _ h2 _ n2
  exact ne_dataH ra rb hs hs hu (by rw [he]; exact h)
theorem ne_popped {T1 T2 : Addr} {k : Int} {t1 t2 : Tok} {v : Value} (ok : IsI v) (n1 : s.heap.get? T1 = some { cls := .type "tuple", data := .seq #[.int k t1, v] }) (n2 : s.heap.get? T2 = some { cls := .type "tuple", data := .seq #[.int k t2, v] })
    (hu : A.units + 64 < cLine) (h : Q (.bool false) s) : wpAny (model prog w) A (compareOp .NotEq (.ref T1) (.ref T2)) Q E s := by
  obtain ⟨i, t, rfl⟩ := ok
  exact ne_dataH (.tuple n1 rfl rfl (.cons (.int _ _) (.cons (.int _ _) .nil))) (.tuple n2 rfl rfl (.cons (.int _ _) (.cons (.int _ _) .nil))) (da := .tuple [.int k, .int i]) (db := .tuple [.int k, .int i]) (by rfl) (by rfl) hu
    (by simpa [PyData.eqv, PyData.eqvAll] using h)
end
/-- two sorted lists of the same ints are one -/
theorem sorted_same {a b : List Int} (p : a.Perm b) (ha : a.Pairwise (· ≤ ·)) (hb : b.Pairwise (· ≤ ·)) : a = b := p.eq_of_pairwise (fun x y _ _ h1 h2 => Int.le_antisymm h1 h2) ha hb
end
section
/-- an object of class C whose own attributes hide no method -/
def CInst (a C : Nat) (own : List (Addr × Obj)) : Prop := ∃ dx es n, (a, instObj C dx) ∈ own ∧ (dx, dictOf es n) ∈ own ∧ getL "get" es = some none ∧ getL "popitem" es = some none
theorem cmethod {prog : Program} {w : World} {A : Around} {E : Value → Shared → Prop} {s : Shared} {K : Frag} {a C f : Nat} {own : List (Addr × Obj)} {h₀ : Heap} {L : Addr} {m : Str → Option Value} {name : Str} {pl : Sem Bool} {Q : Value × List Value → Shared → Prop}
    (F : Fr h₀ L s.heap m) (X₀ : K.In h₀) (I : CInst a C own) (N : News h₀ L s.heap own) (hn : name = "get" ∨ name = "popitem") (hg : plainGet K C name = true)
    (hf : findIn K (.ref C) name = some (some (.ref f))) (ht : isFn K (.ref f) = true) (h : Q (.ref f, [.ref a]) s) : wpAny (model prog w) A (getMethod (.ref a) name pl) Q E s := by
  obtain ⟨dx, es, n, h1, h2, g1, g2⟩ := I
  refine method_inst F X₀ (InstAt.of_news N h1 h2) hg hf ht ?_ h
  rcases hn with rfl | rfl
  · exact g1
  · exact g2
def Hold (p : Prop) : Prop := p
theorem Hold.intro {p : Prop} (h : Hold p) : p := h
end
section
abbrev tup2 (a1 a2 : Addr) : Obj := { cls := .type "tuple", data := .seq #[.ref a1, .ref a2] }
theorem allLt_all {d : Nat} {l : List (Addr × Obj)} (h : AllLt d l) : ∀ p ∈ l, p.1 < d := by
  induction l with
  | nil => intro p hp; cases hp
  | cons x l ih =>
    intro p hp
    have h' : x.1 < d ∧ AllLt d l := h
    rcases List.mem_cons.mp hp with e | hp
    · rw [e]; exact h'.1
    · exact ih h'.2 p hp
theorem four_blk {h₀ h h' : Heap} {L D1 D2 D3 D4 : Nat} {x1 x2 x3 x4 : Obj} {c : Addr × Obj} {bs : List (List (Addr × Obj))} (B : Blk h₀ L h ([c] :: bs)) (N : News h₀ L h' ((D4, x4) :: (D3, x3) :: (D2, x2) :: (D1, x1) :: c :: bs.flatten))
    (q1 : c.1 < D1 ∧ AllLt D1 bs.flatten) (q2 : D1 < D2 ∧ c.1 < D2 ∧ AllLt D2 bs.flatten) (q3 : D2 < D3 ∧ D1 < D3 ∧ c.1 < D3 ∧ AllLt D3 bs.flatten) (q4 : D3 < D4 ∧ D2 < D4 ∧ D1 < D4 ∧ c.1 < D4 ∧ AllLt D4 bs.flatten) :
    Blk h₀ L h' ([(D4, x4), (D3, x3), (D2, x2), (D1, x1)] :: [c] :: bs) := by
  have one : ∀ D : Nat, c.1 < D → AllLt D bs.flatten → ∀ q ∈ ([c] :: bs).flatten, D ≠ q.1 := fun D h1 h2 q hq => by
    rcases List.mem_cons.mp (show q ∈ c :: bs.flatten from hq) with rfl | hq
    · exact (Nat.ne_of_lt h1).symm
    · exact (Nat.ne_of_lt (allLt_all h2 q hq)).symm
  refine B.cons N (apart_ofNe fun p hp q hq => ?_)
  simp only [List.mem_cons, List.not_mem_nil, or_false] at hp
  rcases hp with rfl | rfl | rfl | rfl
  · exact one _ q4.2.2.2.1 q4.2.2.2.2 q hq
  · exact one _ q3.2.2.1 q3.2.2.2 q hq
  · exact one _ q2.2.1 q2.2.2 q hq
  · exact one _ q1.1 q1.2 q hq
section
variable {prog : Program} {w : World} {A : Around} {E : Value → Shared → Prop} {s : Shared} {env : Env} {h₀ : Heap} {target : PySem.Expr} {body : List Stmt} {Q : Flow → Shared → Prop} {I : Nat} {keep TB : List (Addr × Obj)} {bs : List (List (Addr × Obj))} {r : List Itm} {m : Str → Option Value} {v : Value}
theorem items_step (G : (Str → Option Value) → Prop)
    (h : ∀ oI h tk, Fr h₀ env.locals h m → Blk h₀ env.locals h ([(I, oI)] :: TB :: bs) → wpAny (model prog w) A (assign target env v) (fun _ s₂ => wpAny (model prog w) A (execs body env)
      (fun f s' => f = .next ∧ ∃ h' tk' m', s' = { s with heap := h', toks := tk' } ∧ Fr h₀ env.locals h' m' ∧ G m' ∧ Blk h₀ env.locals h' ([(I, oI)] :: TB :: bs)) E s₂) E { s with heap := h, toks := tk })
    (next : ∀ m', G m' → ItemsRest prog w A E h₀ env target body Q s [(I, "tuple_iterator")] keep r m' (TB :: bs).flatten)
    (hp : (TB :: bs).Pairwise Apart) (hI : ∀ p ∈ (TB :: bs).flatten, p.1 < I) (hk : SubL keep (TB :: bs).flatten) :
    ItemsRest prog w A E h₀ env target body Q s [(I, "tuple_iterator")] keep (.val v :: r) m (TB :: bs).flatten := by
  refine ItemsRest.val fun h' tk F => AllObj.cons fun o hc => AllObj.nil fun N => ?_
  have B : Blk h₀ env.locals h' ([(I, o)] :: TB :: bs) := ⟨N, List.pairwise_cons.mpr ⟨fun c hc => apart_ofNe fun p hp q hq => by
    rw [List.mem_singleton.mp hp]
    exact (Nat.ne_of_lt (hI q (List.mem_flatten.mpr ⟨c, hc, hq⟩))).symm, hp⟩⟩
  refine wpAny_mono (h o h' tk F B) (fun _ s₂ h₂ => wpAny_mono h₂ (fun f s' h₃ => ?_) fun _ _ e => e) fun _ _ e => e
  obtain ⟨rfl, h2, tk2, m', rfl, F2, g, B2⟩ := h₃
  refine ⟨h2, tk2, m', (TB :: bs).flatten, rfl, F2, B2.1, fun p hp q hq e => ?_, hk, next m' g⟩
  rw [List.mem_singleton.mp hq] at e
  exact Nat.ne_of_lt (hI p hp) e
end
end
section
theorem four_blkE {h₀ h h' : Heap} {L D1 D2 D3 D4 : Nat} {x1 x2 x3 x4 : Obj} {c : Addr × Obj} {bs : List (List (Addr × Obj))} (B : Blk h₀ L h ([c] :: bs)) (N : News h₀ L h' ((D4, x4) :: (D3, x3) :: (D2, x2) :: (D1, x1) :: c :: bs.flatten))
    (q1 : c.1 < D1 ∧ AllLt D1 bs.flatten) (q2 : D1 < D2 ∧ c.1 < D2 ∧ AllLt D2 bs.flatten) (q3 : D2 < D3 ∧ D1 < D3 ∧ c.1 < D3 ∧ AllLt D3 bs.flatten) (q4 : D3 < D4 ∧ D2 < D4 ∧ D1 < D4 ∧ c.1 < D4 ∧ AllLt D4 bs.flatten) :
    ∃ TB, Blk h₀ L h' (TB :: [c] :: bs) ∧ (D4, x4) ∈ TB ∧ (D3, x3) ∈ TB ∧ (D2, x2) ∈ TB ∧ (D1, x1) ∈ TB :=
  ⟨_, four_blk B N q1 q2 q3 q4, .head _, .tail _ (.head _), .tail _ (.tail _ (.head _)), .tail _ (.tail _ (.tail _ (.head _)))⟩
section
variable {prog : Program} {w : World} {A : Around} {E : Value → Shared → Prop} {s : Shared} {env : Env} {h₀ : Heap} {target : PySem.Expr} {body : List Stmt} {Q : Flow → Shared → Prop} {I : Nat} {keep : List (Addr × Obj)} {bs : List (List (Addr × Obj))} {r : List Itm} {m : Str → Option Value} {f : Tok → Value} {x : Value}
theorem items_stepE (G : (Str → Option Value) → List (List (Addr × Obj)) → Prop)
    (h : ∀ (T' : Addr) (t : Tok) (its : List (Addr × Obj)) (h : Heap) (tk : Nat), IsTup h T' #[f t, x] → Fr h₀ env.locals h m → Blk h₀ env.locals h (its :: bs) → wpAny (model prog w) A (assign target env (.ref T')) (fun _ s₂ => wpAny (model prog w) A (execs body env)
      (fun f s' => f = .next ∧ ∃ h' tk' m' bs', s' = { s with heap := h', toks := tk' } ∧ Fr h₀ env.locals h' m' ∧ G m' bs' ∧ Blk h₀ env.locals h' (its :: bs')) E s₂) E { s with heap := h, toks := tk })
    (next : ∀ m' bs', G m' bs' → bs'.Pairwise Apart → (∀ p ∈ bs'.flatten, p.1 ≠ I ∧ p.1 ≠ I + 1) → SubL keep bs'.flatten ∧ ItemsRest prog w A E h₀ env target body Q s [(I + 1, "enumerate"), (I, "tuple_iterator")] keep r m' bs'.flatten)
    (hp : bs.Pairwise Apart) (hI : ∀ p ∈ bs.flatten, p.1 ≠ I ∧ p.1 ≠ I + 1) :
    ItemsRest prog w A E h₀ env target body Q s [(I + 1, "enumerate"), (I, "tuple_iterator")] keep (.pair f x :: r) m bs.flatten := by
  refine ItemsRest.pair fun T' t h' tk hT F => AllObj.cons fun oE hcE => AllObj.cons fun o hc => AllObj.nil fun N => ?_
  have B : Blk h₀ env.locals h' ([(I + 1, oE), (I, o)] :: bs) := ⟨N, List.pairwise_cons.mpr ⟨fun c hc => apart_ofNe fun p hp q hq => by
    have hq' := hI q (List.mem_flatten.mpr ⟨c, hc, hq⟩)
    simp only [List.mem_cons, List.not_mem_nil, or_false] at hp
    rcases hp with rfl | rfl
    · exact hq'.2.symm
    · exact hq'.1.symm, hp⟩⟩
  refine wpAny_mono (h T' t _ h' tk hT F B) (fun _ s₂ h₂ => wpAny_mono h₂ (fun f s' h₃ => ?_) fun _ _ e => e) fun _ _ e => e
  obtain ⟨rfl, h2, tk2, m', bs', rfl, F2, g, B2⟩ := h₃
  have off : ∀ p ∈ bs'.flatten, p.1 ≠ I ∧ p.1 ≠ I + 1 := fun p hp => ⟨fun e => B2.apartAll.at p hp (by rw [e]; exact .tail _ (.head _)), fun e => B2.apartAll.at p hp (by rw [e]; exact .head _)⟩
  obtain ⟨hk, hr⟩ := next m' bs' g B2.tail.2 off
  refine ⟨h2, tk2, m', bs'.flatten, rfl, F2, B2.1, fun p hp q hq e => ?_, hk, hr⟩
  simp only [List.mem_cons, List.not_mem_nil, or_false] at hq
  rcases hq with rfl | rfl
  · exact (off p hp).2 e
  · exact (off p hp).1 e
end
end
inductive Part (n : Nat) : Prop where
  | mk
theorem look_skip {x y : Str} {u b : Option Value} {v : Value} (h : x ≠ y) (e : b = some v) : (if x = y then u else b) = some v := by rw [if_neg h]; exact e
theorem look_hit {y : Str} {u v : Value} {b : Option Value} (h : u = v) : (if y = y then some u else b) = some v := by rw [if_pos rfl, h]
theorem fm0 (x : Int) : 0 ≤ x.fmod 10 := Int.fmod_nonneg_of_pos x (by decide)
theorem fm1 (x : Int) : x.fmod 10 < 10 := Int.fmod_lt_of_pos x (by decide)
local macro_rules | `(tactic| walk_at "delItem ref int") => `(tactic| (k_here; k_dflt (refine' own_delItem ?F ?X ?I ?hq ?hs ?hf ?_; (case F => k_asm); (case X => k_asm); (case I => k_inst); (case hq => k_is); (case hs => k_is); (case hf => k_is); k_whole)))
local macro_rules | `(tactic| walk_at "LeaveS") => `(tactic| (k_dflt (refine' leaveS_ ?k1 ?k2 ?_; (case k1 => k_asm); (case k2 => k_asm); k_whole)))
local macro_rules | `(tactic| k_room) => `(tactic| ((try simp only [depth_under_make, depth_under_kw, depth_in1, depth_deeper, depth_caller, aTop]); simp only [recursionLimit]; omega))
local macro_rules | `(tactic| walk_at "mine intro") => `(tactic| (refine' Does.intro ?hDD ?ho ?hcd ?hbind ?hloc ?c2 ?c3 ?c4 ?c5 ?h; (case hDD => decide); (case ho => k_is); (case hcd => k_is); (case hbind => (intro sB XB; first | exact BindsTo.of_eq rfl | exact binds_K XB rfl (by k_is) rfl rfl rfl)); (case hloc => exact locs rfl); (case c2 => exact rfl); (case c3 => exact rfl); (case c4 => exact rfl); (case c5 => decide); intro mean mg mb s dp un gd fr g L' h' hdp hun F' N' X' T'; (try dsimp only); (try k_fold)))
local macro_rules | `(tactic| walk_at "mine introF") => `(tactic| (refine' DoesF.intro ?hDD ?ho ?hcd ?hbind ?hloc ?c2 ?c3 ?c4 ?c5 ?h; (case hDD => decide); (case ho => k_is); (case hcd => k_is); (case hbind => (intro sB XB; first | exact BindsTo.of_eq rfl | exact binds_K XB rfl (by k_is) rfl rfl rfl)); (case hloc => exact locs rfl); (case c2 => exact rfl); (case c3 => exact rfl); (case c4 => exact rfl); (case c5 => decide); intro mean mg mb s dp un gd l frs g L' h' hdp hun F' N' ap' Fs' X' T'; have SU0' := PyProof.Rows.TI.SameUp.refl frs; (obtain ⟨hf1', hf2', hf3', hf4'⟩ := apart4 ap'); (try simp only [ordOwn, List.cons_append, List.nil_append] at N'); (try dsimp only); (try k_fold)))
local macro_rules | `(tactic| k_all) => `(tactic| assumption)
local macro_rules | `(tactic| walk_at "LeaveF") => `(tactic| (k_dflt (refine' leaveF4 ?k1 ?k2 ?k3 ?k4 ?k5 ?_; (case k1 => k_asm); (case k2 => k_asm); (case k3 => assumption); (case k4 => assumption); (case k5 => assumption); k_whole)))
local macro_rules | `(tactic| walk_at "noteFrame ref") => `(tactic| (k_here; (with_reducible rename Heap.NewExc _ _ _ _ => chX'); k_dflt (refine' caught_here4 (T' := "KeyError") rfl ?Fs chX' ?F ?N ?ap ?XK ?T ?ex ?hv ?hn ?h1 ?h2 ?h3 ?_ ?hk ?hxk ?hdb ?hE; (case Fs => assumption); (case F => k_asm); (case N => k_asm); (case ap => assumption); (case XK => k_asm); (case T => k_asm); (case ex => k_is); (case hv => boot_by_name); (case hn => decide); (case h1 => decide +kernel); (case h2 => decide +kernel); (case h3 => decide +kernel); (case hk => exact rfl); (case hxk => exact rfl); (case hdb => decide); (case hE => passes_own); k_whole); clear chX'; intro h' frs' SU' Fs' F' N' ap'; (obtain ⟨hf1', hf2', hf3', hf4'⟩ := apart4 ap'); (try dsimp only); (try k_sweep)))
local macro_rules | `(tactic| walk_at "mine N") => `(tactic| first | k_asm | exact news_drop (by k_asm))
local macro_rules | `(tactic| walk_at "mine use") => `(tactic| (case' B => k_asm; case' F => k_asm; case' X => k_asm; case' T => k_asm; case' hf => exact rfl; case' hk => exact rfl))
local macro_rules | `(tactic| walk_at "compareOp In int ref") => `(tactic| (k_here; k_dflt (refine kda_in (knd := PySem.intKind _ _) (by k_asm) (by k_mem) (by assumption) (by assumption) (intKind_is _ _ _ _) _ rfl ?_)))
local macro_rules | `(tactic| walk_at "mine size") => `(tactic| first | omega | (rw [sizeLine_eq]; omega))
local macro_rules | `(tactic| walk_at "subscriptTail") => `(tactic| (k_here; (with_reducible show wpAny _ _ (subscriptTail _ _ (Value.ref _) (Value.int _ _)) _ _ _); k_dflt (refine kda_item (knd := PySem.intKind _ _) (by k_asm) (by k_mem) (by assumption) (intKind_is _ _ _ _) (by assumption) ?_)))
local macro_rules | `(tactic| walk_at "delItem ref int") => `(tactic| (k_here; k_dflt (refine' d_del (knd := PySem.intKind _ _) ?F ?N ?U ?d (intKind_is _ _ _ _) ?hl ?sz ?_; (case F => k_asm); (case N => k_asm); (case U => k_updF); (case d => assumption); (case hl => first | assumption | (simp only [*, Option.isSome_some])); (case sz => walk_at "mine size"); k_whole); intro h' o' F' N' hd'; (try dsimp only at N'); (try k_sweep)))
local macro_rules | `(tactic| walk_at "setItem ref int") => `(tactic| (k_here; k_dflt (refine' kda_set (knd := PySem.intKind _ _) ?F ?N ?U ?d (intKind_is _ _ _ _) ?sz ?_; (case F => k_asm); (case N => k_asm); (case U => k_updF); (case d => assumption); (case sz => walk_at "mine size"); k_whole); intro h' o' F' N' hd'; (try dsimp only at N'); (try k_sweep)))
local macro_rules | `(tactic| walk_at "call builtin:dict.pop") => `(tactic| (k_here; k_dflt (show wpAny _ _ (call (Value.builtin "dict.pop") [Value.ref _, Value.int _ _]) _ _ _); k_dflt (refine' d_popx (knd := PySem.intKind _ _) rfl ?N ?p ?d ?lo (intKind_is _ _ _ _) rfl ?hl ?_; (case N => k_asm); (case p => k_mem); (case d => assumption); (case lo => assumption); (case hl => assumption); k_whole); intro h' e' x'; (try dsimp only)))
local macro_rules | `(tactic| walk_at "call builtin:dict.pop") => `(tactic| (k_here; k_dflt (show wpAny _ _ (call (Value.builtin "dict.pop") [Value.ref _, Value.int _ _]) _ _ _); k_dflt (refine' d_pop (knd := PySem.intKind _ _) ?F ?N ?U ?d (intKind_is _ _ _ _) rfl ?hl ?sz ?_; (case F => k_asm); (case N => k_asm); (case U => k_updF); (case d => assumption); (case hl => assumption); (case sz => walk_at "mine size"); k_whole); intro h' o' F' N' hd'; (try dsimp only at N'); (try k_sweep)))
local macro_rules | `(tactic| walk_at "getMethod ref") => `(tactic| (k_here; (with_reducible show wpAny _ _ (getMethod (Value.ref _) ("pop" : Str) _) _ _ _); k_dflt (refine kdl_method (knd := PySem.intKind _ _) PySem.F.slot_dict_pop PySem.F.type_dict_pop (by k_asm) (by k_mem) (by assumption) ?_)))
local macro_rules | `(tactic| walk_at "mine at") => `(tactic| exact ⟨by assumption, by assumption, by assumption, by assumption, by assumption, by assumption, by assumption, by assumption⟩)
local macro_rules | `(tactic| walk_at "mine len") => `(tactic| first | assumption | (rw [len_without (by assumption) (by assumption)]; omega) | (rw [len_stored_new (by assumption)]; omega) | (rw [len_stored_old (by assumption)]; omega))
local macro_rules | `(tactic| walk_at "Ord") => `(tactic| (refine' Ord.mk ?hn ?d1 ?d2 ?ha; (case d1 => assumption); (case d2 => assumption); (case ha => walk_at "mine at"); (case hn => walk_at "mine len")))
local macro_rules | `(tactic| walk_at "call builtin:iter") => `(tactic| (k_here; k_dflt (refine' kdk_iter (knd := PySem.intKind _ _) ?F ?N ?p ?d ?lo ?_; (case F => k_asm); (case N => k_asm); (case p => k_mem); (case d => assumption); (case lo => assumption); k_whole); intro I' h' oI' ep' F' N' l1' hi' ha'; (try simp only [ordOwn] at l1'); (try k_lt l1'); (try k_sweep)))
local macro_rules | `(tactic| walk_at "call builtin:next") => `(tactic| (k_here; k_dflt (refine' kdk_next (knd := PySem.intKind _ _) ?F ?N ?U ?hi ?ha ?p ?hx ?_; (case F => k_asm); (case N => k_asm); (case U => k_updF); (case hi => assumption); (case ha => assumption); (case p => k_mem); (case hx => assumption); k_whole); intro h' o' key' hk' F' N' hi'; (obtain ⟨tk', e'⟩ := key_int hk'; subst e'); (try dsimp only at N'); (try dsimp only); (try k_sweep)))
local macro_rules | `(tactic| walk_at "mine room") => `(tactic| ((try dsimp only [aTop, Around.in1, Around.deeper]); omega))
local macro_rules | `(tactic| walk_at "WhlIf") => `(tactic| first | (refine WhlIf.yes (decide_eq_true (by omega)) ?_) | (refine WhlIf.no (decide_eq_false (by omega)) ?_))
local macro_rules | `(tactic| walk_at "mine cond") => `(tactic| ((simp only [decide_eq_true_eq, decide_eq_false_iff_not, bne_iff_ne, beq_iff_eq, ne_eq, eq_self, not_true_eq_false, not_false_eq_true, Classical.not_not, Bool.not_eq_true', Bool.not_eq_false', Bool.not_not, Bool.not_true, Bool.not_false, Bool.false_eq_true, Bool.true_eq_false, Bool.not_eq_true, Bool.not_eq_false]) <;> first | omega | assumption))
local macro_rules | `(tactic| walk_at "ite") => `(tactic| (k_dflt (first | refine PySem.W.ite_pos (by assumption) ?_ | refine ite_negB (by assumption) ?_ | refine PySem.W.ite_pos (by walk_at "mine cond") ?_ | refine PySem.W.ite_neg (by walk_at "mine cond") ?_)))
local macro_rules | `(tactic| walk_at "compareOp Is str ref") => `(tactic| (k_here; k_dflt (refine wpAny_is_other (by rfl) (by intro x; cases x) ?_)))
local macro_rules | `(tactic| walk_at "call builtin:len") => `(tactic| (k_here; k_dflt (refine' kda_len (knd := PySem.intKind _ _) ?N ?p ?d ?lo ?z ?_; (case N => k_asm); (case p => k_mem); (case d => assumption); (case lo => assumption); (case z => omega); k_whole)))
local macro_rules | `(tactic| walk_at "truthy ref") => `(tactic| (k_here; k_dflt (refine' d_truthy (knd := PySem.intKind _ _) ?N ?p ?d ?lo ?z ?_; (case N => k_asm); (case p => k_mem); (case d => assumption); (case lo => assumption); (case z => omega); k_whole)))
local macro_rules | `(tactic| walk_at "getAttr ref") => `(tactic| (k_here; (with_reducible show wpAny _ _ (getAttr (Value.ref _) (PySem.Str.ofString "getsizeof") _) _ _ _); k_dflt (refine' get_sm ?F ?X ?I ?hg ?hh ?ha ?hn ?ht ?hp ?hc ?hl ?hv ?_; (case F => k_asm); (case X => k_asm); (case I => k_inst); (case hg => k_is); (case hh => k_is); (case ha => k_is); (case hn => k_is); (case ht => k_is); (case hp => k_is); (case hc => decide +kernel); (case hl => k_get); (case hv => k_handed); k_whole)))
local macro_rules | `(tactic| k_ne) => `(tactic| (refine neN ?_; (try dsimp only); first | exact Na.ne (by assumption) | exact Ne.symm (Na.ne (by assumption)) | assumption | exact Ne.symm (by assumption) | omega | exact apart_na (by assumption) (by k_mem) (by k_mem) | exact Ne.symm (apart_na (by assumption) (by k_mem) (by k_mem))))
local macro_rules | `(tactic| walk_at "getItem ref int") => `(tactic| (k_here; k_dflt (refine kdt_getItem (knd := PySem.intKind _ _) (by k_asm) (by k_mem) (by assumption) (intKind_is _ _ _ _) (by assumption) ?_)))
local macro_rules | `(tactic| walk_at "LfuB") => `(tactic| (refine' LfuB.mk ?hn ?d1 ?lo ?ha; (case d1 => assumption); (case lo => assumption); (case ha => assumption); (case hn => walk_at "mine len")))
local macro_rules | `(tactic| walk_at "compareOp Is ref ref") => `(tactic| (k_here; (with_reducible show wpAny _ _ (compareOp CmpOp.Is (Value.ref _) (Value.ref _)) _ _ _); k_dflt (refine' kto_is ?a ?b ?n ?c ?_; (case a => exact (News.get (by k_asm) (by k_mem))); (case b => exact (News.get (by k_asm) (by k_mem))); (case n => k_ne); (case c => intro e; cases e); k_whole)))
local macro_rules | `(tactic| walk_at "exec While") => `(tactic| (k_here; k_dflt (refine whl_start 100 ?_)))
local macro_rules | `(tactic| walk_at "compareOp In int ref") => `(tactic| (k_here; k_dflt (refine' in_K ?k1 ?k2 ?k3 ?k4 ?k5 ?_; (case k1 => k_asm); (case k2 => k_asm); (case k3 => k_inst); (case k4 => k_is); (case k5 => k_is); k_whole)))
local macro_rules | `(tactic| walk_at "callWith ref") => `(tactic| (k_here; k_dflt (refine' callWith_K ?k1 ?k2 ?_; (case k1 => k_asm); (case k2 => k_is); k_whole)))
local macro_rules | `(tactic| walk_at "Exists") => `(tactic| k_dflt (apply Exists.intro))
local macro_rules | `(tactic| walk_at "And") => `(tactic| first | ((with_reducible show Frag.In _ _ ∧ _); refine ⟨by k_in, ?_⟩; (try dsimp only [List.nil_append, List.cons_append])) | refine ⟨?_, ?_⟩)
local macro_rules | `(tactic| walk_at "getAttr ref") => `(tactic| (k_here; k_dflt (refine' get_own ?k1 ?k2 ?k3 ?k4 ?k5 ?k6 ?k7 ?k8 ?k9 ?_; (case k1 => k_asm); (case k2 => k_asm); (case k3 => k_inst); (case k4 => k_is); (case k5 => k_is); (case k6 => k_is); (case k7 => k_is); (case k8 => k_get); (case k9 => k_handed); k_whole)))
local macro_rules | `(tactic| walk_at "isTrue Compare") => `(tactic| first | with_reducible refine isTrue_chain ?_ | refine wpAny_isTrue_Compare1 ?_)
local macro_rules | `(tactic| walk_at "exec If") => `(tactic| (k_here; refine wpAny_If ?_))
local macro_rules | `(tactic| walk_at "eval Call") => `(tactic| (k_here; k_dflt (refine Call_ ?_)))
local macro_rules | `(tactic| walk_at "execs nil") => `(tactic| first | (k_here; k_gentoks) | refine wpAny_execs_nil ?_)
local macro_rules | `(tactic| walk_at "execs cons") => `(tactic| ((fail_if_success (with_reducible rename Part 12 => pq9)); first | (k_here; k_gentoks) | ((with_reducible refine wpAny_execs_cons ?_); try dsimp only)))
local macro_rules | `(tactic| walk_at "spliced") => `(tactic| (top_here; k_dflt (first | refine spliced_more ?_ | refine spliced_none ?_)))
local macro_rules | `(tactic| walk_at "storeName") => `(tactic| (k_here; k_dflt (refine' storeX_L ?F ?N ?_ ?a ?b; (case F => k_asm); (case N => k_asm); (case a => rfl); (case b => rfl); k_whole; intro h' F' N'; (try k_sweep))))
local macro_rules | `(tactic| walk_at "eval Name") => `(tactic| (k_here; k_dflt (refine' nameX_L ?F ?v ?_ ?a ?b; (case F => k_asm); (case a => rfl); (case b => rfl); (case v => rfl); k_whole)))
section
variable {w : World} {A : Around} {E : Value → Shared → Prop} {s : Shared} {x L dx : Addr} {h₀ : Heap} {m : Str → Option Value} {news news' : List (Addr × Obj)} {ox ox' od : Obj} {name : Str} {v : Value} {C p : Addr} {i : Nat} {es es' : List DictEntry} {n n' : Nat}
structure OwnAttr (P : Params) (C : Addr) (name : Str) : Prop where
  g : plainGet (hd.heap_39 P) C name = true
  d : hasDictIn (hd.heap_39 P) C = true
  f : findIn (hd.heap_39 P) (.ref C) name = some none
  s : findIn (hd.heap_39 P) (.ref C) "__setattr__" = some (some (.builtin "object.__setattr__"))
  o : plainOver (hd.heap_39 P) C = true
  t : takerIn (hd.heap_39 P) C name = some none
structure LinkSlot (P : Params) (name : Str) (p : Addr) (i : Nat) : Prop where
  g : plainGet (hd.heap_39 P) 917 name = true
  f : findIn (hd.heap_39 P) (.ref 917) name = some (some (.ref p))
  n : specialIn (hd.heap_39 P) (.ref p) "__get__" = some (some (.builtin "member_descriptor.__get__"))
  k : takesIn (hd.heap_39 P) (.ref p) = some true
  l : slotIn (hd.heap_39 P) p 917 = some i
  t : takerIn (hd.heap_39 P) 917 name = some (some (.ref p))
  y : typeIn (hd.heap_39 P) (.ref p) = some (.type "member_descriptor")
  z : i < 1000
theorem get_ownA {expr : Bool} {Q : Value → Shared → Prop} (F : Fr h₀ L s.heap m) (X₀ : (hd.heap_39 w.params).In h₀) (I : InstAt s.heap x ox C (some (dictOf es n))) (o : OwnAttr w.params C name) (hl : getL name es = some (some v)) (hv : handedIn v = true) (h : Q v { s with toks := s.toks + 1 }) :
    wpAny (model lawProg w) A (getAttr (.ref x) name expr) Q E s := get_own F X₀ I o.g o.d o.f rfl hl hv h
theorem set_ownA {Q : Unit → Shared → Prop} (F : Fr h₀ L s.heap m) (X₀ : (hd.heap_39 w.params).In h₀) (N : News h₀ L s.heap news) (I : InstAt s.heap x ox C (some (dictOf es n))) (o : OwnAttr w.params C name) (hd : ox.dict = some dx) (hl : (getL name es).isSome = true)
    (e : (putL name (PyData.keyHash w.params name) (.str name (s.toks + 1)) v es, putN name es n) = (es', n')) (U : Upd dx (dictOf es n) (dictOf es' n') news news') (hz : es'.length ≤ 1000)
    (h : ∀ h', Fr h₀ L h' m → News h₀ L h' news' → Q () { s with heap := h', toks := s.toks + 2 }) :
    wpAny (model lawProg w) A (setAttr (.ref x) name v) Q E s := set_dict F X₀ N I hd o.s o.o o.t o.d hl e U hz h
theorem link_get {expr : Bool} {Q : Value → Shared → Prop} (l : LinkSlot w.params name p i) (F : Fr h₀ L s.heap m) (X₀ : (hd.heap_39 w.params).In h₀) (I : InstAt s.heap x ox 917 (some od))
    (hv : (ox.slots[i]?).join = some v) (hh : handedIn v = true) (h : Q v { s with toks := s.toks + 1 }) : wpAny (model lawProg w) A (getAttr (.ref x) name expr) Q E s := get_slot F X₀ I l.g (kf99 _) l.f l.n l.k l.l hv hh h
theorem link_set {Q : Unit → Shared → Prop} (l : LinkSlot w.params name p i) (F : Fr h₀ L s.heap m) (X₀ : (hd.heap_39 w.params).In h₀) (N : News h₀ L s.heap news) (I : InstAt s.heap x ox 917 (some od))
    (e : { ox with slots := (ox.slots ++ Array.replicate (i + 1 - ox.slots.size) none).setIfInBounds i (some v) } = ox') (hf : ox'.isFreed = false) (U : Upd x ox ox' news news')
    (h : ∀ h', Fr h₀ L h' m → News h₀ L h' news' → Q () { s with heap := h', toks := s.toks + 1 }) : wpAny (model lawProg w) A (setAttr (.ref x) name v) Q E s := set_slot F X₀ N I (kf32 _) (kf198 _) l.t l.y l.l l.z e hf U h
end
theorem oa0 (P : Params) : OwnAttr P 1044 (Str.ofString "_Cache__data") := ⟨kf172 P, kf98 P, kf38 P, kf51 P, kf200 P, kf225 P⟩
theorem oa1 (P : Params) : OwnAttr P 1044 (Str.ofString "_Cache__currsize") := ⟨kf176 P, kf98 P, kf45 P, kf51 P, kf200 P, kf220 P⟩
theorem oa2 (P : Params) : OwnAttr P 1044 (Str.ofString "_Cache__maxsize") := ⟨kf184 P, kf98 P, kf55 P, kf51 P, kf200 P, kf226 P⟩
theorem oa3 (P : Params) : OwnAttr P 1044 (Str.ofString "_LRUCache__order") := ⟨kf173 P, kf98 P, kf40 P, kf51 P, kf200 P, kf231 P⟩
theorem oa4 (P : Params) : OwnAttr P 882 (Str.ofString "_Cache__data") := ⟨kf174 P, kf97 P, kf41 P, kf53 P, kf201 P, kf227 P⟩
theorem oa5 (P : Params) : OwnAttr P 882 (Str.ofString "_Cache__currsize") := ⟨kf177 P, kf97 P, kf46 P, kf53 P, kf201 P, kf221 P⟩
theorem oa6 (P : Params) : OwnAttr P 882 (Str.ofString "_Cache__maxsize") := ⟨kf186 P, kf97 P, kf56 P, kf53 P, kf201 P, kf228 P⟩
theorem oa7 (P : Params) : OwnAttr P 882 (Str.ofString "_FIFOCache__order") := ⟨kf171 P, kf97 P, kf37 P, kf53 P, kf201 P, kf232 P⟩
theorem oa8 (P : Params) : OwnAttr P 979 (Str.ofString "_Cache__data") := ⟨kf175 P, kf96 P, kf43 P, kf49 P, kf199 P, kf229 P⟩
theorem oa9 (P : Params) : OwnAttr P 979 (Str.ofString "_Cache__currsize") := ⟨kf178 P, kf96 P, kf47 P, kf49 P, kf199 P, kf222 P⟩
theorem oa10 (P : Params) : OwnAttr P 979 (Str.ofString "_Cache__maxsize") := ⟨kf189 P, kf96 P, kf57 P, kf49 P, kf199 P, kf230 P⟩
theorem oa11 (P : Params) : OwnAttr P 979 (Str.ofString "_LFUCache__root") := ⟨kf182 P, kf96 P, kf50 P, kf49 P, kf199 P, kf233 P⟩
theorem oa12 (P : Params) : OwnAttr P 979 (Str.ofString "_LFUCache__links") := ⟨kf166 P, kf96 P, kf34 P, kf49 P, kf199 P, kf234 P⟩
theorem ls_count (P : Params) : LinkSlot P (Str.ofString "count") 918 0 := ⟨kf165 P, kf36 P, kf211 P, kf237 P, kf207 P, kf223 P, kf244 P, by decide⟩
theorem ls_keys (P : Params) : LinkSlot P (Str.ofString "keys") 919 1 := ⟨kf163 P, kf33 P, kf209 P, kf235 P, kf206 P, kf224 P, kf245 P, by decide⟩
theorem ls_next (P : Params) : LinkSlot P (Str.ofString "next") 920 2 := ⟨kf164 P, kf35 P, kf210 P, kf236 P, kf205 P, kf219 P, kf242 P, by decide⟩
theorem ls_prev (P : Params) : LinkSlot P (Str.ofString "prev") 921 3 := ⟨kf170 P, kf62 P, kf217 P, kf239 P, kf208 P, kf218 P, kf241 P, by decide⟩
local macro_rules | `(tactic| walk_at "getAttr ref") => `(tactic| (k_here; k_dflt (refine' get_ownA ?k1 ?k2 ?k3 ?ko ?k8 ?k9 ?_; (case k1 => k_asm); (case k2 => k_asm); (case k3 => k_inst); (case ko => with_reducible (first | exact oa0 _ | exact oa1 _ | exact oa2 _ | exact oa3 _ | exact oa4 _ | exact oa5 _ | exact oa6 _ | exact oa7 _ | exact oa8 _ | exact oa9 _ | exact oa10 _ | exact oa11 _ | exact oa12 _)); (case k8 => k_get); (case k9 => k_handed); k_whole)))
local macro_rules | `(tactic| walk_at "getAttr ref") => `(tactic| (k_here; k_dflt (refine' link_get ?kl ?k1 ?k2 ?k3 ?k10 ?k11 ?_; (case kl => with_reducible (first | exact ls_next _ | exact ls_prev _ | exact ls_count _ | exact ls_keys _)); (case k1 => k_asm); (case k2 => k_asm); (case k3 => k_inst); (case k10 => k_slotget); (case k11 => k_handed); k_whole)))
local macro_rules | `(tactic| walk_at "setAttr ref") => `(tactic| (k_here; k_dflt (refine' set_ownA ?k1 ?k2 ?k3 ?k4 ?ko ?k5 ?k10 ?k11 ?k12 ?k13 ?_; (case k1 => k_asm); (case k2 => k_asm); (case k3 => k_asm); (case k4 => k_inst); (case ko => with_reducible (first | exact oa0 _ | exact oa1 _ | exact oa2 _ | exact oa3 _ | exact oa4 _ | exact oa5 _ | exact oa6 _ | exact oa7 _ | exact oa8 _ | exact oa9 _ | exact oa10 _ | exact oa11 _ | exact oa12 _)); (case k5 => exact rfl); (case k10 => k_get); (case k11 => k_put); (case k12 => k_upd); (case k13 => exact Nat.le_of_ble_eq_true rfl); k_whole; intro h' F' N'; (try k_sweep))))
local macro_rules | `(tactic| walk_at "setAttr ref") => `(tactic| (k_here; k_dflt (refine' link_set ?kl ?k1 ?k2 ?k3 ?k4 ?k11 ?k12 ?k13 ?_; (case kl => with_reducible (first | exact ls_next _ | exact ls_prev _ | exact ls_count _ | exact ls_keys _)); (case k1 => k_asm); (case k2 => k_asm); (case k3 => k_asm); (case k4 => k_inst); (case k11 => k_slotset); (case k12 => exact rfl); (case k13 => k_upd); k_whole; intro h' F' N'; (try k_sweep))))
local macro_rules | `(tactic| walk_at "ite") => `(tactic| first | ((with_reducible refine PySem.W.ite_pos ?c ?_); (case c => with_reducible assumption)) | ((with_reducible refine ite_negB ?c ?_); (case c => with_reducible assumption)) | ((with_reducible refine PySem.W.ite_pos ?c ?_); (case c => k_dflt (walk_at "mine cond"))) | ((with_reducible refine PySem.W.ite_neg ?c ?_); (case c => k_dflt (walk_at "mine cond"))) | (k_dflt (first | refine PySem.W.ite_pos (by assumption) ?_ | refine ite_negB (by assumption) ?_ | refine PySem.W.ite_pos (by walk_at "mine cond") ?_ | refine PySem.W.ite_neg (by walk_at "mine cond") ?_)))
section
variable {M : Model} {w : World} {A : Around} {E : Value → Shared → Prop} {s : Shared} {h₀ : Heap} {L a : Addr} {m mg mb : Str → Option Value} {cn : Str} {cs : Scope} {ccd : Value} {cl : List (Str × Addr)} {p : Program} {loose : List Str} {x : Str} {pos : Pos} {v : Value} {Q : Value → Shared → Prop}
structure GlobK (P : Params) (x : Str) (v : Value) : Prop where
  e : nsIn (hd.heap_39 P) mainGlobals x = some (some v)
  d : (x == ("__debug__" : Str)) = false
structure GlobB (P : Params) (x : Str) (v : Value) : Prop where
  e : nsIn (hd.heap_39 P) mainGlobals x = some none
  v : bootBuiltins x = some v
  n : x ≠ "__name__"
  d : (x == ("__debug__" : Str)) = false
theorem name_GK (g : GlobK w.params x v) (F : Fr h₀ L s.heap m) (X : (hd.heap_39 w.params).In h₀) (T : TopRead p loose mg mb h₀) (h : Q v s)
    (hk : cs.kind = .function := by rfl) (hx : (envX cn cs L a ccd cl).kindOf x = some .globalImplicit := by rfl) :
    wpAny M A (eval (.Name x pos) (envX cn cs L a ccd cl)) Q E s := nameX_K F X T g.e h hk hx g.d
theorem name_GB (g : GlobB w.params x v) (F : Fr h₀ L s.heap m) (X : (hd.heap_39 w.params).In h₀) (T : TopRead p loose mg mb h₀) (h : Q v s)
    (hk : cs.kind = .function := by rfl) (hx : (envX cn cs L a ccd cl).kindOf x = some .globalImplicit := by rfl) :
    wpAny M A (eval (.Name x pos) (envX cn cs L a ccd cl)) Q E s := nameX_B F X T g.e g.v g.n h hk hx g.d
end
theorem gk_Cache (P : Params) : GlobK P (Str.ofString "Cache") (.ref 830) := ⟨kf154 P, by decide⟩
theorem gk__law_use (P : Params) : GlobK P (Str.ofString "_law_use") (.ref 1053) := ⟨kf156 P, by decide⟩
theorem gk_LFUCache (P : Params) : GlobK P (Str.ofString "LFUCache") (.ref 979) := ⟨kf158 P, by decide⟩
theorem gk_LRUCache (P : Params) : GlobK P (Str.ofString "LRUCache") (.ref 1044) := ⟨kf159 P, by decide⟩
theorem gk_FIFOCache (P : Params) : GlobK P (Str.ofString "FIFOCache") (.ref 882) := ⟨kf160 P, by decide⟩
theorem gb_len (P : Params) : GlobB P (Str.ofString "len") (.builtin "len") := ⟨kf150 P, by boot_fast, by decide, by decide⟩
theorem gb_iter (P : Params) : GlobB P (Str.ofString "iter") (.builtin "iter") := ⟨kf151 P, by boot_fast, by decide, by decide⟩
theorem gb_range (P : Params) : GlobB P (Str.ofString "range") (.type "range") := ⟨kf153 P, by boot_fast, by decide, by decide⟩
theorem gb_sorted (P : Params) : GlobB P (Str.ofString "sorted") (.builtin "sorted") := ⟨kf155 P, by boot_fast, by decide, by decide⟩
theorem gb_next (P : Params) : GlobB P (Str.ofString "next") (.builtin "next") := ⟨kf157 P, by boot_fast, by decide, by decide⟩
theorem gb_enumerate (P : Params) : GlobB P (Str.ofString "enumerate") (.type "enumerate") := ⟨kf161 P, by boot_fast, by decide, by decide⟩
theorem gb_KeyError (P : Params) : GlobB P (Str.ofString "KeyError") (.type "KeyError") := ⟨kf162 P, by boot_fast, by decide, by decide⟩
local macro_rules | `(tactic| walk_at "eval Name") => `(tactic| (k_here; k_dflt (first | (refine' name_GK ?g ?F ?X ?T ?_ ?a ?b; (case g => with_reducible (first | exact gk_Cache _ | exact gk__law_use _ | exact gk_LFUCache _ | exact gk_LRUCache _ | exact gk_FIFOCache _)); (case F => k_asm); (case X => k_asm); (case T => k_asm); (case a => rfl); (case b => exact rfl); k_whole) | (refine' name_GB ?g ?F ?X ?T ?_ ?a ?b; (case g => with_reducible (first | exact gb_len _ | exact gb_sorted _ | exact gb_range _ | exact gb_next _ | exact gb_iter _ | exact gb_enumerate _ | exact gb_KeyError _)); (case F => k_asm); (case X => k_asm); (case T => k_asm); (case a => rfl); (case b => exact rfl); k_whole))))
local macro_rules | `(tactic| walk_at "eval Name") => `(tactic| (k_here; k_dflt (refine' nameX_L ?F ?v ?_ ?a ?b; (case F => k_asm); (case a => rfl); (case b => exact rfl); (case v => rfl); k_whole)))
local macro_rules | `(tactic| walk_at "eval Name") => `(tactic| ((with_reducible show wpAny _ _ (eval (Expr.Name _ _) (envOfC _ _ _ _ _)) _ _ _); k_here; k_dflt (refine' nameX_L ?F ?hv ?_ ?a ?b; (case a => rfl); (case b => exact rfl); (case F => k_asm); (case hv => walk_at "mine look"); k_whole)))
local macro_rules | `(tactic| walk_at "subscriptTail Attribute") => `(tactic| (k_here; k_dflt (refine kba_turn (value' := PySem.Expr.Name (PySem.Str.ofString "_") ⟨0, 0, 0, 0⟩) (fun _ => rfl) ?_; refine kda_item (knd := PySem.intKind _ _) (by k_asm) (by k_mem) (by assumption) (intKind_is _ _ _ _) (by assumption) ?_)))
local macro_rules | `(tactic| walk_at "LeaveS") => `(tactic| tm_at "mine leave")
local macro_rules | `(tactic| walk_at "Exists") => `(tactic| tm_at "mine exists")
local macro_rules | `(tactic| walk_at "call ref") => `(tactic| first | tm_at "mine call" | k_dflt (tm_at "mine call") | refine Hold.intro ?_)
local macro_rules | `(tactic| walk_at "mine look") => `(tactic| ((try with_reducible dsimp only); (repeat (first | with_reducible assumption | with_reducible exact look_hit rfl | ((with_reducible apply look_skip); (case h => decide))))))
local macro_rules | `(tactic| walk_at "mine na") => `(tactic| first | exact Na.ne (by assumption) | exact Ne.symm (Na.ne (by assumption)))
local macro_rules | `(tactic| walk_at "setItem ref int") => `(tactic| ((with_reducible rename Part 20 => pq1); (k_here; k_dflt (refine' ksp_setItem ?F ?X ?I ?hQ ?hS ?hF ?_; (case F => k_asm); (case X => k_asm); (case I => k_inst); (case hS => k_is); (case hF => k_is); (case hQ => k_is); k_whole))))
local macro_rules | `(tactic| walk_at "subscriptTail") => `(tactic| ((with_reducible rename Part 10 => pq1); (k_here; (with_reducible show wpAny _ _ (subscriptTail (Expr.List _ _) _ (Value.ref _) (Value.int _ _)) _ _ _); k_dflt (refine item_anyK (ns := [0, 0, 0, 0, 1, 1, 1, 1, 2, 3]) (News.isList (by k_asm) (List.Mem.head _)) (by repeat (first | exact IntsAre.nil | refine IntsAre.cons _ _ ?_)) (fm0 _) (fm1 _) (Int.lt_trans (fm1 _) (by decide)) ?_ (by with_unfolding_all rfl)); intro _)))
local macro_rules | `(tactic| walk_at "mine fits") => `(tactic| first | (refine Nat.le_trans (Nat.add_le_add (Nat.le_trans (Nat.le_of_eq (List.length_map _)) (List.length_filter_le _ _)) (Nat.le_refl _)) ?_; rw [sizeLine_eq]; simp only [List.length_cons, List.length_nil]; omega) | (refine Nat.le_trans (Nat.add_le_add (List.length_filter_le _ _) (Nat.le_refl _)) ?_; rw [sizeLine_eq]; simp only [List.length_cons, List.length_nil]; omega))
local macro_rules | `(tactic| walk_at "binaryOp Add ref ref") => `(tactic| ((with_reducible rename Part 11 => pq1); (k_here; (with_reducible show wpAny _ _ (binaryOp _ (Value.ref _) (Value.ref _)) _ _ _); k_dflt (refine' kmk_add_ints ?F ?N ?a ?b ?i ?j ?_ ?z; (case F => k_asm); (case N => k_asm); (case a => kmk_list); (case b => kmk_list); (case i => l_ints); (case j => l_ints); (case z => walk_at "mine fits")); intro D' ws' h' F' N' l1 hI'; (try k_lt l1); (try k_sweep))))
local macro_rules | `(tactic| walk_at "subscriptTail Name Slice ref ref") => `(tactic| ((with_reducible rename Part 15 => pq1); (k_here; (with_reducible show wpAny _ _ (subscriptTail _ (PySem.Expr.Slice _ _ none _) (Value.ref _) (Value.ref _)) _ _ _); k_dflt (refine' kmk_slice_ints ?F ?N ?l ?p ?q ?i ?m ?c ?_ ?s ?t ?z; (case F => k_asm); (case N => k_asm); (case l => exact News.isList (by k_asm) (List.Mem.head _)); (case p => kmk_part); (case q => kmk_part); (case i => with_reducible assumption); (case m => exact kmk_from_neg (by with_reducible assumption) (by omega)); (case c => kmk_len); (case s => with_unfolding_all rfl); (case t => kmk_pure); (case z => (refine kmk_sz (by with_reducible assumption) ?_; rw [List.length_append]; walk_at "mine fits"))); intro D' ws' h' F' N' l1 hI' hC' hL'; (try k_lt l1); (try k_sweep))))
local macro_rules | `(tactic| walk_at "subscriptTail Name Slice ref ref") => `(tactic| ((with_reducible rename Part 12 => pq1); (k_here; (with_reducible show wpAny _ _ (subscriptTail _ (PySem.Expr.Slice _ _ none _) (Value.ref _) (Value.ref _)) _ _ _); k_dflt (refine' kmk_slice_ints ?F ?N ?l ?p ?q ?i ?m ?c ?_ ?s ?t ?z; (case F => k_asm); (case N => k_asm); (case l => exact News.isList (by k_asm) (List.Mem.head _)); (case p => kmk_part); (case q => kmk_part); (case i => with_reducible assumption); (case m => exact kmk_from_neg (by with_reducible assumption) (by omega)); (case c => kmk_len); (case s => with_unfolding_all rfl); (case t => kmk_pure); (case z => (refine kmk_sz (by with_reducible assumption) ?_; first | (rw [List.length_append]; walk_at "mine fits") | (rw [List.length_map]; refine Nat.le_trans (List.length_filter_le _ _) ?_; rw [sizeLine_eq]; omega) | (rw [List.length_drop, sizeLine_eq]; omega) | (rw [sizeLine_eq]; omega)))); intro D' ws' h' F' N' l1 hI' hC' hL'; (try k_lt l1); (try k_sweep))))
local macro_rules | `(tactic| walk_at "compareOp In int ref") => `(tactic| ((with_reducible rename Part 14 => pq1); (k_here; k_dflt (refine in_list_ints (News.isList (by k_asm) (List.Mem.tail _ (List.Mem.head _))) (by with_reducible assumption) ?_))))
local macro_rules | `(tactic| walk_at "subscriptTail Name Slice ref ref") => `(tactic| ((with_reducible rename Part 13 => pq1); (k_here; (with_reducible show wpAny _ _ (subscriptTail _ (PySem.Expr.Slice _ _ none _) (Value.ref _) (Value.ref _)) _ _ _); k_dflt (refine' kmk_slice_ints ?F ?N ?l ?p ?q ?i ?m ?c ?_ ?s ?t ?z; (case F => k_asm); (case N => k_asm); (case l => exact News.isList (by k_asm) (List.Mem.tail _ (List.Mem.head _))); (case p => kmk_part); (case q => kmk_part); (case i => with_reducible assumption); (case m => exact kmk_from_neg (by with_reducible assumption) (by omega)); (case c => kmk_len); (case s => with_unfolding_all rfl); (case t => kmk_pure); (case z => (refine kmk_sz (by with_reducible assumption) ?_; first | (rw [List.length_append]; walk_at "mine fits") | (rw [List.length_map]; refine Nat.le_trans (List.length_filter_le _ _) ?_; rw [sizeLine_eq]; omega) | (rw [List.length_drop, sizeLine_eq]; omega) | (rw [sizeLine_eq]; omega)))); intro D' ws' h' F' N' l1 hI' hC' hL'; (try k_lt l1); (try k_sweep))))
local macro_rules | `(tactic| walk_at "pyIter ref") => `(tactic| ((with_reducible rename Part 1 => pq1); refine Hold.intro ?_))
local macro_rules | `(tactic| walk_at "getMethod ref") => `(tactic| ((with_reducible rename Part 2 => pq1); refine Hold.intro ?_))
local macro_rules | `(tactic| walk_at "call builtin:sorted") => `(tactic| ((with_reducible rename Part 3 => pq1); refine Hold.intro ?_))
local macro_rules | `(tactic| walk_at "call builtin:len") => `(tactic| ((with_reducible rename Part 4 => pq1); refine Hold.intro ?_))
local macro_rules | `(tactic| walk_at "compareOp NotIn int ref") => `(tactic| ((with_reducible rename Part 5 => pq1); refine Hold.intro ?_))
local macro_rules | `(tactic| walk_at "compareOp NotEq ref ref") => `(tactic| ((with_reducible rename Part 6 => pq1); refine Hold.intro ?_))
local macro_rules | `(tactic| walk_at "call ref") => `(tactic| ((with_reducible rename Part 7 => pq1); refine Hold.intro ?_))
local macro_rules | `(tactic| walk_at "call builtin:list.pop") => `(tactic| ((with_reducible rename Part 8 => pq1); refine Hold.intro ?_))
local macro_rules | `(tactic| walk_at "call type:enumerate") => `(tactic| ((with_reducible rename Part 9 => pq1); refine Hold.intro ?_))
section
section
variable {w : World} {a da dd od : Addr} {mx : Int} {kvs ord : List (Int × Value)} {own : List (Addr × Obj)} {k : Int} {t : Tok} {v : Value}
set_option maxHeartbeats 4000000 in
theorem lru_contains (O : Ord w 1044 "_LRUCache__order" a da dd od mx kvs ord own) :
    Does w 600 5000 749 [.ref a, .int k t] own (fun r own' => r = .bool (valueAt kvs k).isSome ∧ own' = own) := by
  obtain ⟨n, t1, t2, t3, t4, t5, t6, o1, o2, rfl, hn, d1, d2, lo1, lo2, n1, n2, n3, n4, n5, n6⟩ := O
  w_on
  walk_at "mine intro"
  k_steps
set_option maxHeartbeats 4000000 in
theorem lru_get0 (O : Ord w 1044 "_LRUCache__order" a da dd od mx kvs ord own) (hv : valueAt kvs k = some v) :
    Does w 600 5000 728 [.ref a, .int k t] own (fun r own' => r = v ∧ own' = own) := by
  obtain ⟨n, t1, t2, t3, t4, t5, t6, o1, o2, rfl, hn, d1, d2, lo1, lo2, n1, n2, n3, n4, n5, n6⟩ := O
  w_on
  walk_at "mine intro"
  k_steps
set_option maxHeartbeats 4000000 in
theorem lru_del0 (O : Ord w 1044 "_LRUCache__order" a da dd od mx kvs ord own) (hv : (valueAt kvs k).isSome = true) (hz : kvs.length ≤ 64) :
    Does w 600 5000 742 [.ref a, .int k t] own (fun r own' => r = .none ∧ Ord w 1044 "_LRUCache__order" a da dd od mx (without kvs k) ord own') := by
  obtain ⟨n, t1, t2, t3, t4, t5, t6, o1, o2, rfl, hn, d1, d2, lo1, lo2, n1, n2, n3, n4, n5, n6⟩ := O
  w_on
  walk_at "mine intro"
  k_steps
set_option maxHeartbeats 4000000 in
theorem lru_len (O : Ord w 1044 "_LRUCache__order" a da dd od mx kvs ord own) (hz : kvs.length ≤ 64) :
    Does w 600 5000 770 [.ref a] own (fun r own' => (∃ tk, r = .int kvs.length tk) ∧ own' = own) := by
  obtain ⟨n, t1, t2, t3, t4, t5, t6, o1, o2, rfl, hn, d1, d2, lo1, lo2, n1, n2, n3, n4, n5, n6⟩ := O
  w_on
  walk_at "mine intro"
  k_steps
set_option maxHeartbeats 4000000 in
theorem lru_iter (O : Ord w 1044 "_LRUCache__order" a da dd od mx kvs ord own) :
    Does w 600 5000 763 [.ref a] own (fun r own' => ∃ I oI ep o1, r = .ref I ∧ own' = (I, oI) :: own ∧ (dd, o1) ∈ own ∧ KdkIter oI dd 0 kvs.length ep ∧ KdkAt (PySem.intKind lawProg w) o1 kvs ep) := by
  obtain ⟨n, t1, t2, t3, t4, t5, t6, o1, o2, rfl, hn, d1, d2, lo1, lo2, n1, n2, n3, n4, n5, n6⟩ := O
  w_on
  walk_at "mine intro"
  k_steps
  all_goals (first | k_mem | assumption)
end
end
section
section
variable {w : World} {a da dd od : Addr} {mx : Int} {kvs ord : List (Int × Value)} {own : List (Addr × Obj)} {k : Int} {t : Tok} {v : Value}
set_option maxHeartbeats 4000000 in
theorem lru_touch_old (O : Ord w 1044 "_LRUCache__order" a da dd od mx kvs ord own) (hv : valueAt ord k = some v) (hz : ord.length ≤ 64) :
    Does w 600 5000 1041 [.ref a, .int k t] own (fun r own' => r = .none ∧ Ord w 1044 "_LRUCache__order" a da dd od mx kvs (stored (without ord k) k v) own') := by
  obtain ⟨n, t1, t2, t3, t4, t5, t6, o1, o2, rfl, hn, d1, d2, lo1, lo2, n1, n2, n3, n4, n5, n6⟩ := O
  have hz2 := without_len_le ord k
  w_on
  walk_at "mine intro"
  k_steps
set_option maxHeartbeats 4000000 in
theorem lru_touch_new (O : Ord w 1044 "_LRUCache__order" a da dd od mx kvs ord own) (hv : valueAt ord k = none) (hz : ord.length ≤ 64) :
    DoesF w 600 5000 1041 [.ref a, .int k t] own (fun r own' => r = .none ∧ Ord w 1044 "_LRUCache__order" a da dd od mx kvs (stored ord k .none) own') := by
  obtain ⟨n, t1, t2, t3, t4, t5, t6, o1, o2, rfl, hn, d1, d2, lo1, lo2, n1, n2, n3, n4, n5, n6⟩ := O
  w_on
  walk_at "mine introF"
  k_steps
end
end
section
section
variable {w : World} {a da dd od : Addr} {mx : Int} {kvs ord : List (Int × Value)} {own : List (Addr × Obj)} {k : Int} {t : Tok} {v vo : Value}
local macro_rules | `(tactic| tm_at "mine call") => `(tactic| (k_here; (with_reducible show wpAny _ _ (call (Value.ref 728) _) _ _ _); k_dflt (refine' Does.use (lru_get0 ?O ?hv) ?F ?X ?N ?T ?hD ?hU ?_; (case F => k_asm); (case X => k_asm); (case T => k_asm); (first | ((case N => k_asm); (case O => walk_at "Ord")) | ((case N => exact news_drop (by k_asm)); (case O => walk_at "Ord"))); (case hv => assumption); (case hD => walk_at "mine room"); (case hU => walk_at "mine room"); k_whole); intro v' own' h' tk' F' N' P'; (obtain ⟨e1', e2'⟩ := P'; subst e1'; subst e2'); (try dsimp only); (try k_sweep)))
local macro_rules | `(tactic| tm_at "mine call") => `(tactic| (k_here; (with_reducible show wpAny _ _ (call (Value.ref 742) _) _ _ _); k_dflt (refine' Does.use (lru_del0 ?O ?hv ?hz) ?F ?X ?N ?T ?hD ?hU ?_; (case F => k_asm); (case X => k_asm); (case T => k_asm); (first | ((case N => k_asm); (case O => walk_at "Ord")) | ((case N => exact news_drop (by k_asm)); (case O => walk_at "Ord"))); (case hv => assumption); (case hz => omega); (case hD => walk_at "mine room"); (case hU => walk_at "mine room"); k_whole); intro v' own' h' tk' F' N' P'; (obtain ⟨e1', n', t1', t2', t3', t4', t5', t6', o1', o2', e2', hn', d1', d2', -⟩ := P'; subst e1'; subst e2'); (try dsimp only); (try k_sweep)))
set_option maxHeartbeats 4000000 in
theorem lru_del (O : Ord w 1044 "_LRUCache__order" a da dd od mx kvs ord own) (hv : (valueAt kvs k).isSome = true) (hvo : (valueAt ord k).isSome = true) (hz : kvs.length ≤ 64) (hzo : ord.length ≤ 64) :
    Does w 590 4900 1020 [.ref a, .int k t] own (fun r own' => r = .none ∧ Ord w 1044 "_LRUCache__order" a da dd od mx (without kvs k) (without ord k) own') := by
  obtain ⟨n, t1, t2, t3, t4, t5, t6, o1, o2, rfl, hn, d1, d2, lo1, lo2, n1, n2, n3, n4, n5, n6⟩ := O
  w_on
  walk_at "mine intro"
  k_steps
local macro_rules | `(tactic| tm_at "mine call") => `(tactic| (k_here; (with_reducible show wpAny _ _ (call (Value.ref 1020) _) _ _ _); k_dflt (refine' Does.use (lru_del ?O ?hv ?hvo ?hz ?hzo) ?F ?X ?N ?T ?hD ?hU ?_; (case F => k_asm); (case X => k_asm); (case T => k_asm); (first | ((case N => k_asm); (case O => walk_at "Ord")) | ((case N => exact news_drop (by k_asm)); (case O => walk_at "Ord"))); (case hv => assumption); (case hvo => assumption); (case hz => omega); (case hzo => omega); (case hD => walk_at "mine room"); (case hU => walk_at "mine room"); k_whole); intro v' own' h' tk' F' N' P'; (obtain ⟨e1', n', t1', t2', t3', t4', t5', t6', o1', o2', e2', hn', d1', d2', -⟩ := P'; subst e1'; subst e2'); (try dsimp only); (try k_sweep)))
set_option maxHeartbeats 4000000 in
theorem lru_popitem (O : Ord w 1044 "_LRUCache__order" a da dd od mx kvs ord own) (hx : ord[0]? = some (k, vo)) (hv : valueAt kvs k = some v) (hz : kvs.length ≤ 64) (hzo : ord.length ≤ 64) :
    Does w 580 4800 1027 [.ref a] own (fun r own' => ∃ T tk own2, r = .ref T ∧ own' = (T, { cls := .type "tuple", data := .seq #[.int k tk, v] }) :: own2 ∧ Ord w 1044 "_LRUCache__order" a da dd od mx (without kvs k) (without ord k) own2) := by
  obtain ⟨n, t1, t2, t3, t4, t5, t6, o1, o2, rfl, hn, d1, d2, lo1, lo2, n1, n2, n3, n4, n5, n6⟩ := O
  have hv1 : (valueAt kvs k).isSome = true := by rw [hv]; rfl
  have hv2 : (valueAt ord k).isSome = true := by rw [valueAt_head hx]; rfl
  w_on
  walk_at "mine intro"
  k_steps
end
end
section
section
variable {w : World} {a da dd od : Addr} {mx : Int} {kvs ord : List (Int × Value)} {own : List (Addr × Obj)} {k k0 : Int} {t : Tok} {v vo v0 : Value}
local macro_rules | `(tactic| tm_at "mine call") => `(tactic| (k_here; (with_reducible show wpAny _ _ (call (Value.ref 1027) _) _ _ _); k_dflt (refine' Does.use (lru_popitem ?O ?hx ?hv ?hz ?hzo) ?F ?X ?N ?T ?hD ?hU ?_; (case F => k_asm); (case X => k_asm); (case T => k_asm); (first | ((case N => k_asm); (case O => walk_at "Ord")) | ((case N => exact news_drop (by k_asm)); (case O => walk_at "Ord"))); (case hx => assumption); (case hv => assumption); (case hz => omega); (case hzo => omega); (case hD => walk_at "mine room"); (case hU => walk_at "mine room"); k_whole); intro v' own' h' tk' F' N' P'; (obtain ⟨T', tk', own2', e1', e2', n', t1', t2', t3', t4', t5', t6', o1', o2', e3', hn', d1', d2', -⟩ := P'; subst e1'; subst e2'; subst e3'; replace N' := news_drop N'); (try dsimp only); (try k_sweep)))
set_option maxHeartbeats 4000000 in
theorem lru_set0_old (O : Ord w 1044 "_LRUCache__order" a da dd od mx kvs ord own) (hv : (valueAt kvs k).isSome = true) (hz : kvs.length ≤ 64) (hmx : 1 ≤ mx) :
    Does w 570 4700 735 [.ref a, .int k t, v] own (fun r own' => r = .none ∧ Ord w 1044 "_LRUCache__order" a da dd od mx (stored kvs k v) ord own') := by
  obtain ⟨n, t1, t2, t3, t4, t5, t6, o1, o2, rfl, hn, d1, d2, lo1, lo2, n1, n2, n3, n4, n5, n6⟩ := O
  w_on
  walk_at "mine intro"
  k_steps
set_option maxHeartbeats 4000000 in
theorem lru_set0_new (O : Ord w 1044 "_LRUCache__order" a da dd od mx kvs ord own) (hv : (valueAt kvs k).isSome = false) (hz : kvs.length ≤ 63) (hmx : (kvs.length : Int) < mx) :
    Does w 570 4700 735 [.ref a, .int k t, v] own (fun r own' => r = .none ∧ Ord w 1044 "_LRUCache__order" a da dd od mx (stored kvs k v) ord own') := by
  obtain ⟨n, t1, t2, t3, t4, t5, t6, o1, o2, rfl, hn, d1, d2, lo1, lo2, n1, n2, n3, n4, n5, n6⟩ := O
  w_on
  walk_at "mine intro"
  k_steps
set_option maxHeartbeats 4000000 in
theorem lru_set0_full (O : Ord w 1044 "_LRUCache__order" a da dd od mx kvs ord own) (hv : (valueAt kvs k).isSome = false) (hz : kvs.length ≤ 63) (hmx : (kvs.length : Int) = mx) (hmx1 : 1 ≤ mx) (hx : ord[0]? = some (k0, vo)) (hv0 : valueAt kvs k0 = some v0) (hzo : ord.length ≤ 64) :
    Does w 570 4700 735 [.ref a, .int k t, v] own (fun r own' => r = .none ∧ Ord w 1044 "_LRUCache__order" a da dd od mx (stored (without kvs k0) k v) (without ord k0) own') := by
  obtain ⟨n, t1, t2, t3, t4, t5, t6, o1, o2, rfl, hn, d1, d2, lo1, lo2, n1, n2, n3, n4, n5, n6⟩ := O
  have hlw := len_without d1 (k := k0) (by rw [hv0]; rfl)
  have hv3 : (valueAt (without kvs k0) k).isSome = false := valueAt_without_none hv
  w_on
  walk_at "mine intro"
  k_steps
end
end
section
section
variable {w : World} {a da dd od : Addr} {mx : Int} {kvs ord : List (Int × Value)} {own : List (Addr × Obj)} {k k0 : Int} {t t0 : Tok} {v vo v0 : Value}
section
local macro_rules | `(tactic| tm_at "mine call") => `(tactic| (k_here; (with_reducible rename Apart _ _ => apU'); (with_reducible show wpAny _ _ (call (Value.ref 735) _) _ _ _); k_dflt (refine' useF4 (DoesF.of (lru_set0_old ?O ?hv ?hz ?hmx)) ?F ?X ?N ?ap ?Fs ?T rfl rfl ?hD ?hU ?_; (case F => k_asm); (case X => k_asm); (case T => k_asm); (case N => k_asm); (case ap => assumption); (case Fs => assumption); (case O => walk_at "Ord"); (case hv => assumption); (case hz => omega); (case hmx => assumption); (case hD => walk_at "mine room"); (case hU => walk_at "mine room"); k_whole); intro v' own' frs' h' tk' F' N' ap' SU' Fs' P'; (replace SU' := PyProof.Rows.TI.SameUp.trans (by assumption) SU'); (obtain ⟨e1', n', t1', t2', t3', t4', t5', t6', o1', o2', e2', hn', d1', d2', -⟩ := P'; subst e1'; subst e2'); (obtain ⟨hf1', hf2', hf3', hf4'⟩ := apart4 ap'); (try simp only [ordOwn, List.cons_append, List.nil_append] at N'); (try clear apU'); (try dsimp only); (try k_sweep)))
local macro_rules | `(tactic| tm_at "mine call") => `(tactic| (k_here; (with_reducible rename Apart _ _ => apU'); (with_reducible show wpAny _ _ (call (Value.ref 735) _) _ _ _); k_dflt (refine' useF4 (DoesF.of (lru_set0_new ?O ?hv ?hz ?hmx)) ?F ?X ?N ?ap ?Fs ?T rfl rfl ?hD ?hU ?_; (case F => k_asm); (case X => k_asm); (case T => k_asm); (case N => k_asm); (case ap => assumption); (case Fs => assumption); (case O => walk_at "Ord"); (case hv => assumption); (case hz => omega); (case hmx => assumption); (case hD => walk_at "mine room"); (case hU => walk_at "mine room"); k_whole); intro v' own' frs' h' tk' F' N' ap' SU' Fs' P'; (replace SU' := PyProof.Rows.TI.SameUp.trans (by assumption) SU'); (obtain ⟨e1', n', t1', t2', t3', t4', t5', t6', o1', o2', e2', hn', d1', d2', -⟩ := P'; subst e1'; subst e2'); (obtain ⟨hf1', hf2', hf3', hf4'⟩ := apart4 ap'); (try simp only [ordOwn, List.cons_append, List.nil_append] at N'); (try clear apU'); (try dsimp only); (try k_sweep)))
local macro_rules | `(tactic| tm_at "mine call") => `(tactic| (k_here; (with_reducible rename Apart _ _ => apU'); (with_reducible show wpAny _ _ (call (Value.ref 735) _) _ _ _); k_dflt (refine' useF4 (DoesF.of (lru_set0_full ?O ?hv ?hz ?hmx ?hmx1 ?hx ?hv0 ?hzo)) ?F ?X ?N ?ap ?Fs ?T rfl rfl ?hD ?hU ?_; (case F => k_asm); (case X => k_asm); (case T => k_asm); (case N => k_asm); (case ap => assumption); (case Fs => assumption); (case O => walk_at "Ord"); (case hv => assumption); (case hz => omega); (case hmx => assumption); (case hmx1 => assumption); (case hx => assumption); (case hv0 => assumption); (case hzo => omega); (case hD => walk_at "mine room"); (case hU => walk_at "mine room"); k_whole); intro v' own' frs' h' tk' F' N' ap' SU' Fs' P'; (replace SU' := PyProof.Rows.TI.SameUp.trans (by assumption) SU'); (obtain ⟨e1', n', t1', t2', t3', t4', t5', t6', o1', o2', e2', hn', d1', d2', -⟩ := P'; subst e1'; subst e2'); (obtain ⟨hf1', hf2', hf3', hf4'⟩ := apart4 ap'); (try simp only [ordOwn, List.cons_append, List.nil_append] at N'); (try clear apU'); (try dsimp only); (try k_sweep)))
local macro_rules | `(tactic| tm_at "mine call") => `(tactic| (k_here; (with_reducible rename Apart _ _ => apU'); (with_reducible show wpAny _ _ (call (Value.ref 1041) _) _ _ _); k_dflt (refine' useF4 (DoesF.of (lru_touch_old ?O ?hv ?hz)) ?F ?X ?N ?ap ?Fs ?T rfl rfl ?hD ?hU ?_; (case F => k_asm); (case X => k_asm); (case T => k_asm); (case N => k_asm); (case ap => assumption); (case Fs => assumption); (case O => walk_at "Ord"); (case hv => assumption); (case hz => omega); (case hD => walk_at "mine room"); (case hU => walk_at "mine room"); k_whole); intro v' own' frs' h' tk' F' N' ap' SU' Fs' P'; (replace SU' := PyProof.Rows.TI.SameUp.trans (by assumption) SU'); (obtain ⟨e1', n', t1', t2', t3', t4', t5', t6', o1', o2', e2', hn', d1', d2', -⟩ := P'; subst e1'; subst e2'); (obtain ⟨hf1', hf2', hf3', hf4'⟩ := apart4 ap'); (try simp only [ordOwn, List.cons_append, List.nil_append] at N'); (try clear apU'); (try dsimp only); (try k_sweep)))
local macro_rules | `(tactic| tm_at "mine call") => `(tactic| (k_here; (with_reducible rename Apart _ _ => apU'); (with_reducible show wpAny _ _ (call (Value.ref 1041) _) _ _ _); k_dflt (refine' useF4 (lru_touch_new ?O ?hv ?hz) ?F ?X ?N ?ap ?Fs ?T rfl rfl ?hD ?hU ?_; (case F => k_asm); (case X => k_asm); (case T => k_asm); (case N => k_asm); (case ap => assumption); (case Fs => assumption); (case O => walk_at "Ord"); (case hv => assumption); (case hz => omega); (case hD => walk_at "mine room"); (case hU => walk_at "mine room"); k_whole); intro v' own' frs' h' tk' F' N' ap' SU' Fs' P'; (replace SU' := PyProof.Rows.TI.SameUp.trans (by assumption) SU'); (obtain ⟨e1', n', t1', t2', t3', t4', t5', t6', o1', o2', e2', hn', d1', d2', -⟩ := P'; subst e1'; subst e2'); (obtain ⟨hf1', hf2', hf3', hf4'⟩ := apart4 ap'); (try simp only [ordOwn, List.cons_append, List.nil_append] at N'); (try clear apU'); (try dsimp only); (try k_sweep)))
set_option maxHeartbeats 4000000 in
theorem lru_set_old (O : Ord w 1044 "_LRUCache__order" a da dd od mx kvs ord own) (hv : (valueAt kvs k).isSome = true) (hvo : valueAt ord k = some vo) (hz : kvs.length ≤ 63) (hzo : ord.length ≤ 63) (hmx : 1 ≤ mx) :
    DoesF w 560 4600 1012 [.ref a, .int k t, v] own (fun r own' => r = .none ∧ Ord w 1044 "_LRUCache__order" a da dd od mx (stored kvs k v) (stored (without ord k) k vo) own') := by
  obtain ⟨n, t1, t2, t3, t4, t5, t6, o1, o2, rfl, hn, d1, d2, lo1, lo2, n1, n2, n3, n4, n5, n6⟩ := O
  w_on
  walk_at "mine introF"
  k_steps
set_option maxHeartbeats 4000000 in
theorem lru_set_new (O : Ord w 1044 "_LRUCache__order" a da dd od mx kvs ord own) (hv : (valueAt kvs k).isSome = false) (hvo : valueAt ord k = none) (hz : kvs.length ≤ 63) (hzo : ord.length ≤ 63) (hmx : (kvs.length : Int) < mx) :
    DoesF w 560 4600 1012 [.ref a, .int k t, v] own (fun r own' => r = .none ∧ Ord w 1044 "_LRUCache__order" a da dd od mx (stored kvs k v) (stored ord k .none) own') := by
  obtain ⟨n, t1, t2, t3, t4, t5, t6, o1, o2, rfl, hn, d1, d2, lo1, lo2, n1, n2, n3, n4, n5, n6⟩ := O
  w_on
  walk_at "mine introF"
  k_steps
set_option maxHeartbeats 4000000 in
theorem lru_set_full (O : Ord w 1044 "_LRUCache__order" a da dd od mx kvs ord own) (hv : (valueAt kvs k).isSome = false) (hvo : valueAt (without ord k0) k = none) (hz : kvs.length ≤ 63) (hzo : ord.length ≤ 63) (hmx : (kvs.length : Int) = mx) (hmx1 : 1 ≤ mx) (hx : ord[0]? = some (k0, vo)) (hv0 : valueAt kvs k0 = some v0) :
    DoesF w 560 4600 1012 [.ref a, .int k t, v] own (fun r own' => r = .none ∧ Ord w 1044 "_LRUCache__order" a da dd od mx (stored (without kvs k0) k v) (stored (without ord k0) k .none) own') := by
  obtain ⟨n, t1, t2, t3, t4, t5, t6, o1, o2, rfl, hn, d1, d2, lo1, lo2, n1, n2, n3, n4, n5, n6⟩ := O
  have hz2 := without_len_le ord k0
  w_on
  walk_at "mine introF"
  k_steps
end
section
local macro_rules | `(tactic| tm_at "mine call") => `(tactic| (k_here; (with_reducible show wpAny _ _ (call (Value.ref 728) _) _ _ _); k_dflt (refine' Does.use (lru_get0 ?O ?hv) ?F ?X ?N ?T ?hD ?hU ?_; (case F => k_asm); (case X => k_asm); (case T => k_asm); (first | ((case N => k_asm); (case O => walk_at "Ord")) | ((case N => exact news_drop (by k_asm)); (case O => walk_at "Ord"))); (case hv => assumption); (case hD => walk_at "mine room"); (case hU => walk_at "mine room"); k_whole); intro v' own' h' tk' F' N' P'; (obtain ⟨e1', e2'⟩ := P'; subst e1'; subst e2'); (try dsimp only); (try k_sweep)))
set_option maxHeartbeats 4000000 in
theorem lru_get (O : Ord w 1044 "_LRUCache__order" a da dd od mx kvs ord own) (hv : valueAt kvs k = some v) (hvo : valueAt ord k = some vo) (hzo : ord.length ≤ 63) :
    Does w 590 4900 1004 [.ref a, .int k t] own (fun r own' => r = v ∧ Ord w 1044 "_LRUCache__order" a da dd od mx kvs (stored (without ord k) k vo) own') := by
  obtain ⟨n, t1, t2, t3, t4, t5, t6, o1, o2, rfl, hn, d1, d2, lo1, lo2, n1, n2, n3, n4, n5, n6⟩ := O
  have hz2 := without_len_le ord k
  w_on
  walk_at "mine intro"
  k_steps
end
section
local macro_rules | `(tactic| tm_at "mine call") => `(tactic| (k_here; (with_reducible show wpAny _ _ (call (Value.ref 1004) _) _ _ _); k_dflt (refine' Does.use (lru_get ?O ?hv ?hvo ?hzo) ?F ?X ?N ?T ?hD ?hU ?_; (case F => k_asm); (case X => k_asm); (case T => k_asm); (first | ((case N => k_asm); (case O => walk_at "Ord")) | ((case N => exact news_drop (by k_asm)); (case O => walk_at "Ord"))); (case hv => assumption); (case hvo => assumption); (case hzo => omega); (case hD => walk_at "mine room"); (case hU => walk_at "mine room"); k_whole); intro v' own' h' tk' F' N' P'; (obtain ⟨e1', n', t1', t2', t3', t4', t5', t6', o1', o2', e2', hn', d1', d2', -⟩ := P'; subst e1'; subst e2'); (try dsimp only); (try k_sweep)))
local macro_rules | `(tactic| tm_at "mine call") => `(tactic| (k_here; (with_reducible show wpAny _ _ (call (Value.ref 749) _) _ _ _); k_dflt (refine' Does.use (lru_contains ?O) ?F ?X ?N ?T ?hD ?hU ?_; (case F => k_asm); (case X => k_asm); (case T => k_asm); (first | ((case N => k_asm); (case O => walk_at "Ord")) | ((case N => exact news_drop (by k_asm)); (case O => walk_at "Ord"))); (case hD => walk_at "mine room"); (case hU => walk_at "mine room"); k_whole); intro v' own' h' tk' F' N' P'; (obtain ⟨e1', e2'⟩ := P'; subst e1'; subst e2'); (try dsimp only); (try k_sweep)))
local macro_rules | `(tactic| tm_at "mine call") => `(tactic| (k_here; (with_reducible show wpAny _ _ (call (Value.ref 1020) _) _ _ _); k_dflt (refine' Does.use (lru_del ?O ?hv ?hvo ?hz ?hzo) ?F ?X ?N ?T ?hD ?hU ?_; (case F => k_asm); (case X => k_asm); (case T => k_asm); (first | ((case N => k_asm); (case O => walk_at "Ord")) | ((case N => exact news_drop (by k_asm)); (case O => walk_at "Ord"))); (case hv => assumption); (case hvo => assumption); (case hz => omega); (case hzo => omega); (case hD => walk_at "mine room"); (case hU => walk_at "mine room"); k_whole); intro v' own' h' tk' F' N' P'; (obtain ⟨e1', n', t1', t2', t3', t4', t5', t6', o1', o2', e2', hn', d1', d2', -⟩ := P'; subst e1'; subst e2'); (try dsimp only); (try k_sweep)))
set_option maxHeartbeats 4000000 in
theorem lru_read_in (O : Ord w 1044 "_LRUCache__order" a da dd od mx kvs ord own) (hv : valueAt kvs k = some v) (hvo : valueAt ord k = some vo) (hzo : ord.length ≤ 63) :
    Does w 580 4800 778 [.ref a, .int k t, v0] own (fun r own' => r = v ∧ Ord w 1044 "_LRUCache__order" a da dd od mx kvs (stored (without ord k) k vo) own') := by
  obtain ⟨n, t1, t2, t3, t4, t5, t6, o1, o2, rfl, hn, d1, d2, lo1, lo2, n1, n2, n3, n4, n5, n6⟩ := O
  have hv1 := is_of hv
  w_on
  walk_at "mine intro"
  k_steps
set_option maxHeartbeats 4000000 in
theorem lru_read_out (O : Ord w 1044 "_LRUCache__order" a da dd od mx kvs ord own) (hv : (valueAt kvs k).isSome = false) :
    Does w 580 4800 778 [.ref a, .int k t, v0] own (fun r own' => r = v0 ∧ own' = own) := by
  obtain ⟨n, t1, t2, t3, t4, t5, t6, o1, o2, rfl, hn, d1, d2, lo1, lo2, n1, n2, n3, n4, n5, n6⟩ := O
  w_on
  walk_at "mine intro"
  k_steps
set_option maxHeartbeats 4000000 in
theorem lru_pop_in (O : Ord w 1044 "_LRUCache__order" a da dd od mx kvs ord own) (hv : valueAt kvs k = some v) (hvo : valueAt ord k = some vo) (hz : kvs.length ≤ 63) (hzo : ord.length ≤ 63) :
    Does w 580 4800 786 [.ref a, .int k t, v0] own (fun r own' => r = v ∧ Ord w 1044 "_LRUCache__order" a da dd od mx (without kvs k) (without (stored (without ord k) k vo) k) own') := by
  obtain ⟨n, t1, t2, t3, t4, t5, t6, o1, o2, rfl, hn, d1, d2, lo1, lo2, n1, n2, n3, n4, n5, n6⟩ := O
  have hv1 := is_of hv
  have hz1 := without_len_le ord k
  have hz2 := stored_length_le (without ord k) k vo
  have hv2 := is_of (valueAt_stored (without ord k) k vo)
  w_on
  walk_at "mine intro"
  k_steps
set_option maxHeartbeats 4000000 in
theorem lru_pop_out {x : Str} (O : Ord w 1044 "_LRUCache__order" a da dd od mx kvs ord own) (hv : (valueAt kvs k).isSome = false) :
    Does w 580 4800 786 [.ref a, .int k t, .str x t0] own (fun r own' => r = .str x t0 ∧ own' = own) := by
  obtain ⟨n, t1, t2, t3, t4, t5, t6, o1, o2, rfl, hn, d1, d2, lo1, lo2, n1, n2, n3, n4, n5, n6⟩ := O
  w_on
  walk_at "mine intro"
  k_steps
end
end
end
section
section
variable {w : World} {a da dd od : Addr} {mx : Int} {kvs ord : List (Int × Value)} {own : List (Addr × Obj)} {k : Int} {t : Tok} {v : Value}
set_option maxHeartbeats 4000000 in
theorem fifo_contains (O : Ord w 882 "_FIFOCache__order" a da dd od mx kvs ord own) :
    Does w 600 5000 749 [.ref a, .int k t] own (fun r own' => r = .bool (valueAt kvs k).isSome ∧ own' = own) := by
  obtain ⟨n, t1, t2, t3, t4, t5, t6, o1, o2, rfl, hn, d1, d2, lo1, lo2, n1, n2, n3, n4, n5, n6⟩ := O
  w_on
  walk_at "mine intro"
  k_steps
set_option maxHeartbeats 4000000 in
theorem fifo_get0 (O : Ord w 882 "_FIFOCache__order" a da dd od mx kvs ord own) (hv : valueAt kvs k = some v) :
    Does w 600 5000 728 [.ref a, .int k t] own (fun r own' => r = v ∧ own' = own) := by
  obtain ⟨n, t1, t2, t3, t4, t5, t6, o1, o2, rfl, hn, d1, d2, lo1, lo2, n1, n2, n3, n4, n5, n6⟩ := O
  w_on
  walk_at "mine intro"
  k_steps
set_option maxHeartbeats 4000000 in
theorem fifo_del0 (O : Ord w 882 "_FIFOCache__order" a da dd od mx kvs ord own) (hv : (valueAt kvs k).isSome = true) (hz : kvs.length ≤ 64) :
    Does w 600 5000 742 [.ref a, .int k t] own (fun r own' => r = .none ∧ Ord w 882 "_FIFOCache__order" a da dd od mx (without kvs k) ord own') := by
  obtain ⟨n, t1, t2, t3, t4, t5, t6, o1, o2, rfl, hn, d1, d2, lo1, lo2, n1, n2, n3, n4, n5, n6⟩ := O
  w_on
  walk_at "mine intro"
  k_steps
set_option maxHeartbeats 4000000 in
theorem fifo_len (O : Ord w 882 "_FIFOCache__order" a da dd od mx kvs ord own) (hz : kvs.length ≤ 64) :
    Does w 600 5000 770 [.ref a] own (fun r own' => (∃ tk, r = .int kvs.length tk) ∧ own' = own) := by
  obtain ⟨n, t1, t2, t3, t4, t5, t6, o1, o2, rfl, hn, d1, d2, lo1, lo2, n1, n2, n3, n4, n5, n6⟩ := O
  w_on
  walk_at "mine intro"
  k_steps
set_option maxHeartbeats 4000000 in
theorem fifo_iter (O : Ord w 882 "_FIFOCache__order" a da dd od mx kvs ord own) :
    Does w 600 5000 763 [.ref a] own (fun r own' => ∃ I oI ep o1, r = .ref I ∧ own' = (I, oI) :: own ∧ (dd, o1) ∈ own ∧ KdkIter oI dd 0 kvs.length ep ∧ KdkAt (PySem.intKind lawProg w) o1 kvs ep) := by
  obtain ⟨n, t1, t2, t3, t4, t5, t6, o1, o2, rfl, hn, d1, d2, lo1, lo2, n1, n2, n3, n4, n5, n6⟩ := O
  w_on
  walk_at "mine intro"
  k_steps
  all_goals (first | k_mem | assumption)
end
end
section
section
variable {w : World} {a da dd od : Addr} {mx : Int} {kvs ord : List (Int × Value)} {own : List (Addr × Obj)} {k : Int} {t : Tok} {v vo : Value}
local macro_rules | `(tactic| tm_at "mine call") => `(tactic| (k_here; (with_reducible show wpAny _ _ (call (Value.ref 728) _) _ _ _); k_dflt (refine' Does.use (fifo_get0 ?O ?hv) ?F ?X ?N ?T ?hD ?hU ?_; (case F => k_asm); (case X => k_asm); (case T => k_asm); (first | ((case N => k_asm); (case O => walk_at "Ord")) | ((case N => exact news_drop (by k_asm)); (case O => walk_at "Ord"))); (case hv => assumption); (case hD => walk_at "mine room"); (case hU => walk_at "mine room"); k_whole); intro v' own' h' tk' F' N' P'; (obtain ⟨e1', e2'⟩ := P'; subst e1'; subst e2'); (try dsimp only); (try k_sweep)))
local macro_rules | `(tactic| tm_at "mine call") => `(tactic| (k_here; (with_reducible show wpAny _ _ (call (Value.ref 742) _) _ _ _); k_dflt (refine' Does.use (fifo_del0 ?O ?hv ?hz) ?F ?X ?N ?T ?hD ?hU ?_; (case F => k_asm); (case X => k_asm); (case T => k_asm); (first | ((case N => k_asm); (case O => walk_at "Ord")) | ((case N => exact news_drop (by k_asm)); (case O => walk_at "Ord"))); (case hv => assumption); (case hz => omega); (case hD => walk_at "mine room"); (case hU => walk_at "mine room"); k_whole); intro v' own' h' tk' F' N' P'; (obtain ⟨e1', n', t1', t2', t3', t4', t5', t6', o1', o2', e2', hn', d1', d2', -⟩ := P'; subst e1'; subst e2'); (try dsimp only); (try k_sweep)))
set_option maxHeartbeats 4000000 in
theorem fifo_del (O : Ord w 882 "_FIFOCache__order" a da dd od mx kvs ord own) (hv : (valueAt kvs k).isSome = true) (hvo : (valueAt ord k).isSome = true) (hz : kvs.length ≤ 64) (hzo : ord.length ≤ 64) :
    Does w 590 4900 865 [.ref a, .int k t] own (fun r own' => r = .none ∧ Ord w 882 "_FIFOCache__order" a da dd od mx (without kvs k) (without ord k) own') := by
  obtain ⟨n, t1, t2, t3, t4, t5, t6, o1, o2, rfl, hn, d1, d2, lo1, lo2, n1, n2, n3, n4, n5, n6⟩ := O
  w_on
  walk_at "mine intro"
  k_steps
local macro_rules | `(tactic| tm_at "mine call") => `(tactic| (k_here; (with_reducible show wpAny _ _ (call (Value.ref 865) _) _ _ _); k_dflt (refine' Does.use (fifo_del ?O ?hv ?hvo ?hz ?hzo) ?F ?X ?N ?T ?hD ?hU ?_; (case F => k_asm); (case X => k_asm); (case T => k_asm); (first | ((case N => k_asm); (case O => walk_at "Ord")) | ((case N => exact news_drop (by k_asm)); (case O => walk_at "Ord"))); (case hv => assumption); (case hvo => assumption); (case hz => omega); (case hzo => omega); (case hD => walk_at "mine room"); (case hU => walk_at "mine room"); k_whole); intro v' own' h' tk' F' N' P'; (obtain ⟨e1', n', t1', t2', t3', t4', t5', t6', o1', o2', e2', hn', d1', d2', -⟩ := P'; subst e1'; subst e2'); (try dsimp only); (try k_sweep)))
set_option maxHeartbeats 4000000 in
theorem fifo_popitem (O : Ord w 882 "_FIFOCache__order" a da dd od mx kvs ord own) (hx : ord[0]? = some (k, vo)) (hv : valueAt kvs k = some v) (hz : kvs.length ≤ 64) (hzo : ord.length ≤ 64) :
    Does w 580 4800 872 [.ref a] own (fun r own' => ∃ T tk own2, r = .ref T ∧ own' = (T, { cls := .type "tuple", data := .seq #[.int k tk, v] }) :: own2 ∧ Ord w 882 "_FIFOCache__order" a da dd od mx (without kvs k) (without ord k) own2) := by
  obtain ⟨n, t1, t2, t3, t4, t5, t6, o1, o2, rfl, hn, d1, d2, lo1, lo2, n1, n2, n3, n4, n5, n6⟩ := O
  have hv1 : (valueAt kvs k).isSome = true := by rw [hv]; rfl
  have hv2 : (valueAt ord k).isSome = true := by rw [valueAt_head hx]; rfl
  w_on
  walk_at "mine intro"
  k_steps
end
end
section
section
variable {w : World} {a da dd od : Addr} {mx : Int} {kvs ord : List (Int × Value)} {own : List (Addr × Obj)} {k k0 : Int} {t : Tok} {v vo v0 : Value}
local macro_rules | `(tactic| tm_at "mine call") => `(tactic| (k_here; (with_reducible show wpAny _ _ (call (Value.ref 872) _) _ _ _); k_dflt (refine' Does.use (fifo_popitem ?O ?hx ?hv ?hz ?hzo) ?F ?X ?N ?T ?hD ?hU ?_; (case F => k_asm); (case X => k_asm); (case T => k_asm); (first | ((case N => k_asm); (case O => walk_at "Ord")) | ((case N => exact news_drop (by k_asm)); (case O => walk_at "Ord"))); (case hx => assumption); (case hv => assumption); (case hz => omega); (case hzo => omega); (case hD => walk_at "mine room"); (case hU => walk_at "mine room"); k_whole); intro v' own' h' tk' F' N' P'; (obtain ⟨T', tk', own2', e1', e2', n', t1', t2', t3', t4', t5', t6', o1', o2', e3', hn', d1', d2', -⟩ := P'; subst e1'; subst e2'; subst e3'; replace N' := news_drop N'); (try dsimp only); (try k_sweep)))
set_option maxHeartbeats 4000000 in
theorem fifo_set0_old (O : Ord w 882 "_FIFOCache__order" a da dd od mx kvs ord own) (hv : (valueAt kvs k).isSome = true) (hz : kvs.length ≤ 64) (hmx : 1 ≤ mx) :
    Does w 570 4700 735 [.ref a, .int k t, v] own (fun r own' => r = .none ∧ Ord w 882 "_FIFOCache__order" a da dd od mx (stored kvs k v) ord own') := by
  obtain ⟨n, t1, t2, t3, t4, t5, t6, o1, o2, rfl, hn, d1, d2, lo1, lo2, n1, n2, n3, n4, n5, n6⟩ := O
  w_on
  walk_at "mine intro"
  k_steps
set_option maxHeartbeats 4000000 in
theorem fifo_set0_new (O : Ord w 882 "_FIFOCache__order" a da dd od mx kvs ord own) (hv : (valueAt kvs k).isSome = false) (hz : kvs.length ≤ 63) (hmx : (kvs.length : Int) < mx) :
    Does w 570 4700 735 [.ref a, .int k t, v] own (fun r own' => r = .none ∧ Ord w 882 "_FIFOCache__order" a da dd od mx (stored kvs k v) ord own') := by
  obtain ⟨n, t1, t2, t3, t4, t5, t6, o1, o2, rfl, hn, d1, d2, lo1, lo2, n1, n2, n3, n4, n5, n6⟩ := O
  w_on
  walk_at "mine intro"
  k_steps
set_option maxHeartbeats 4000000 in
theorem fifo_set0_full (O : Ord w 882 "_FIFOCache__order" a da dd od mx kvs ord own) (hv : (valueAt kvs k).isSome = false) (hz : kvs.length ≤ 63) (hmx : (kvs.length : Int) = mx) (hmx1 : 1 ≤ mx) (hx : ord[0]? = some (k0, vo)) (hv0 : valueAt kvs k0 = some v0) (hzo : ord.length ≤ 64) :
    Does w 570 4700 735 [.ref a, .int k t, v] own (fun r own' => r = .none ∧ Ord w 882 "_FIFOCache__order" a da dd od mx (stored (without kvs k0) k v) (without ord k0) own') := by
  obtain ⟨n, t1, t2, t3, t4, t5, t6, o1, o2, rfl, hn, d1, d2, lo1, lo2, n1, n2, n3, n4, n5, n6⟩ := O
  have hlw := len_without d1 (k := k0) (by rw [hv0]; rfl)
  have hv3 : (valueAt (without kvs k0) k).isSome = false := valueAt_without_none hv
  w_on
  walk_at "mine intro"
  k_steps
end
end
section
section
variable {w : World} {a da dd od : Addr} {mx : Int} {kvs ord : List (Int × Value)} {own : List (Addr × Obj)} {k k0 : Int} {t t0 : Tok} {v vo v0 : Value}
section
local macro_rules | `(tactic| tm_at "mine call") => `(tactic| (k_here; (with_reducible show wpAny _ _ (call (Value.ref 735) _) _ _ _); k_dflt (refine' Does.use (fifo_set0_old ?O ?hv ?hz ?hmx) ?F ?X ?N ?T ?hD ?hU ?_; (case F => k_asm); (case X => k_asm); (case T => k_asm); (first | ((case N => k_asm); (case O => walk_at "Ord")) | ((case N => exact news_drop (by k_asm)); (case O => walk_at "Ord"))); (case hv => assumption); (case hz => omega); (case hmx => assumption); (case hD => walk_at "mine room"); (case hU => walk_at "mine room"); k_whole); intro v' own' h' tk' F' N' P'; (obtain ⟨e1', n', t1', t2', t3', t4', t5', t6', o1', o2', e2', hn', d1', d2', -⟩ := P'; subst e1'; subst e2'); (try dsimp only); (try k_sweep)))
local macro_rules | `(tactic| tm_at "mine call") => `(tactic| (k_here; (with_reducible show wpAny _ _ (call (Value.ref 735) _) _ _ _); k_dflt (refine' Does.use (fifo_set0_new ?O ?hv ?hz ?hmx) ?F ?X ?N ?T ?hD ?hU ?_; (case F => k_asm); (case X => k_asm); (case T => k_asm); (first | ((case N => k_asm); (case O => walk_at "Ord")) | ((case N => exact news_drop (by k_asm)); (case O => walk_at "Ord"))); (case hv => assumption); (case hz => omega); (case hmx => assumption); (case hD => walk_at "mine room"); (case hU => walk_at "mine room"); k_whole); intro v' own' h' tk' F' N' P'; (obtain ⟨e1', n', t1', t2', t3', t4', t5', t6', o1', o2', e2', hn', d1', d2', -⟩ := P'; subst e1'; subst e2'); (try dsimp only); (try k_sweep)))
local macro_rules | `(tactic| tm_at "mine call") => `(tactic| (k_here; (with_reducible show wpAny _ _ (call (Value.ref 735) _) _ _ _); k_dflt (refine' Does.use (fifo_set0_full ?O ?hv ?hz ?hmx ?hmx1 ?hx ?hv0 ?hzo) ?F ?X ?N ?T ?hD ?hU ?_; (case F => k_asm); (case X => k_asm); (case T => k_asm); (first | ((case N => k_asm); (case O => walk_at "Ord")) | ((case N => exact news_drop (by k_asm)); (case O => walk_at "Ord"))); (case hv => assumption); (case hz => omega); (case hmx => assumption); (case hmx1 => assumption); (case hx => assumption); (case hv0 => assumption); (case hzo => omega); (case hD => walk_at "mine room"); (case hU => walk_at "mine room"); k_whole); intro v' own' h' tk' F' N' P'; (obtain ⟨e1', n', t1', t2', t3', t4', t5', t6', o1', o2', e2', hn', d1', d2', -⟩ := P'; subst e1'; subst e2'); (try dsimp only); (try k_sweep)))
set_option maxHeartbeats 4000000 in
theorem fifo_set_old (O : Ord w 882 "_FIFOCache__order" a da dd od mx kvs ord own) (hv : (valueAt kvs k).isSome = true) (hvo : valueAt ord k = some vo) (hz : kvs.length ≤ 63) (hzo : ord.length ≤ 63) (hmx : 1 ≤ mx) :
    Does w 560 4600 857 [.ref a, .int k t, v] own (fun r own' => r = .none ∧ Ord w 882 "_FIFOCache__order" a da dd od mx (stored kvs k v) (stored (without ord k) k vo) own') := by
  obtain ⟨n, t1, t2, t3, t4, t5, t6, o1, o2, rfl, hn, d1, d2, lo1, lo2, n1, n2, n3, n4, n5, n6⟩ := O
  have hv1 := is_of hvo
  have hz2 := without_len_le ord k
  w_on
  walk_at "mine intro"
  k_steps
set_option maxHeartbeats 4000000 in
theorem fifo_set_new (O : Ord w 882 "_FIFOCache__order" a da dd od mx kvs ord own) (hv : (valueAt kvs k).isSome = false) (hvo : (valueAt ord k).isSome = false) (hz : kvs.length ≤ 63) (hzo : ord.length ≤ 63) (hmx : (kvs.length : Int) < mx) :
    Does w 560 4600 857 [.ref a, .int k t, v] own (fun r own' => r = .none ∧ Ord w 882 "_FIFOCache__order" a da dd od mx (stored kvs k v) (stored ord k .none) own') := by
  obtain ⟨n, t1, t2, t3, t4, t5, t6, o1, o2, rfl, hn, d1, d2, lo1, lo2, n1, n2, n3, n4, n5, n6⟩ := O
  w_on
  walk_at "mine intro"
  k_steps
set_option maxHeartbeats 4000000 in
theorem fifo_set_full (O : Ord w 882 "_FIFOCache__order" a da dd od mx kvs ord own) (hv : (valueAt kvs k).isSome = false) (hvo : (valueAt (without ord k0) k).isSome = false) (hz : kvs.length ≤ 63) (hzo : ord.length ≤ 63) (hmx : (kvs.length : Int) = mx) (hmx1 : 1 ≤ mx) (hx : ord[0]? = some (k0, vo)) (hv0 : valueAt kvs k0 = some v0) :
    Does w 560 4600 857 [.ref a, .int k t, v] own (fun r own' => r = .none ∧ Ord w 882 "_FIFOCache__order" a da dd od mx (stored (without kvs k0) k v) (stored (without ord k0) k .none) own') := by
  obtain ⟨n, t1, t2, t3, t4, t5, t6, o1, o2, rfl, hn, d1, d2, lo1, lo2, n1, n2, n3, n4, n5, n6⟩ := O
  have hz2 := without_len_le ord k0
  w_on
  walk_at "mine intro"
  k_steps
end
section
local macro_rules | `(tactic| tm_at "mine call") => `(tactic| (k_here; (with_reducible show wpAny _ _ (call (Value.ref 728) _) _ _ _); k_dflt (refine' Does.use (fifo_get0 ?O ?hv) ?F ?X ?N ?T ?hD ?hU ?_; (case F => k_asm); (case X => k_asm); (case T => k_asm); (first | ((case N => k_asm); (case O => walk_at "Ord")) | ((case N => exact news_drop (by k_asm)); (case O => walk_at "Ord"))); (case hv => assumption); (case hD => walk_at "mine room"); (case hU => walk_at "mine room"); k_whole); intro v' own' h' tk' F' N' P'; (obtain ⟨e1', e2'⟩ := P'; subst e1'; subst e2'); (try dsimp only); (try k_sweep)))
local macro_rules | `(tactic| tm_at "mine call") => `(tactic| (k_here; (with_reducible show wpAny _ _ (call (Value.ref 749) _) _ _ _); k_dflt (refine' Does.use (fifo_contains ?O) ?F ?X ?N ?T ?hD ?hU ?_; (case F => k_asm); (case X => k_asm); (case T => k_asm); (first | ((case N => k_asm); (case O => walk_at "Ord")) | ((case N => exact news_drop (by k_asm)); (case O => walk_at "Ord"))); (case hD => walk_at "mine room"); (case hU => walk_at "mine room"); k_whole); intro v' own' h' tk' F' N' P'; (obtain ⟨e1', e2'⟩ := P'; subst e1'; subst e2'); (try dsimp only); (try k_sweep)))
local macro_rules | `(tactic| tm_at "mine call") => `(tactic| (k_here; (with_reducible show wpAny _ _ (call (Value.ref 865) _) _ _ _); k_dflt (refine' Does.use (fifo_del ?O ?hv ?hvo ?hz ?hzo) ?F ?X ?N ?T ?hD ?hU ?_; (case F => k_asm); (case X => k_asm); (case T => k_asm); (first | ((case N => k_asm); (case O => walk_at "Ord")) | ((case N => exact news_drop (by k_asm)); (case O => walk_at "Ord"))); (case hv => assumption); (case hvo => assumption); (case hz => omega); (case hzo => omega); (case hD => walk_at "mine room"); (case hU => walk_at "mine room"); k_whole); intro v' own' h' tk' F' N' P'; (obtain ⟨e1', n', t1', t2', t3', t4', t5', t6', o1', o2', e2', hn', d1', d2', -⟩ := P'; subst e1'; subst e2'); (try dsimp only); (try k_sweep)))
set_option maxHeartbeats 4000000 in
theorem fifo_read_in (O : Ord w 882 "_FIFOCache__order" a da dd od mx kvs ord own) (hv : valueAt kvs k = some v) :
    Does w 580 4800 778 [.ref a, .int k t, v0] own (fun r own' => r = v ∧ own' = own) := by
  obtain ⟨n, t1, t2, t3, t4, t5, t6, o1, o2, rfl, hn, d1, d2, lo1, lo2, n1, n2, n3, n4, n5, n6⟩ := O
  have hv1 := is_of hv
  w_on
  walk_at "mine intro"
  k_steps
set_option maxHeartbeats 4000000 in
theorem fifo_read_out (O : Ord w 882 "_FIFOCache__order" a da dd od mx kvs ord own) (hv : (valueAt kvs k).isSome = false) :
    Does w 580 4800 778 [.ref a, .int k t, v0] own (fun r own' => r = v0 ∧ own' = own) := by
  obtain ⟨n, t1, t2, t3, t4, t5, t6, o1, o2, rfl, hn, d1, d2, lo1, lo2, n1, n2, n3, n4, n5, n6⟩ := O
  w_on
  walk_at "mine intro"
  k_steps
set_option maxHeartbeats 4000000 in
theorem fifo_pop_in (O : Ord w 882 "_FIFOCache__order" a da dd od mx kvs ord own) (hv : valueAt kvs k = some v) (hvo : (valueAt ord k).isSome = true) (hz : kvs.length ≤ 63) (hzo : ord.length ≤ 63) :
    Does w 580 4800 786 [.ref a, .int k t, v0] own (fun r own' => r = v ∧ Ord w 882 "_FIFOCache__order" a da dd od mx (without kvs k) (without ord k) own') := by
  obtain ⟨n, t1, t2, t3, t4, t5, t6, o1, o2, rfl, hn, d1, d2, lo1, lo2, n1, n2, n3, n4, n5, n6⟩ := O
  have hv1 := is_of hv
  w_on
  walk_at "mine intro"
  k_steps
set_option maxHeartbeats 4000000 in
theorem fifo_pop_out {x : Str} (O : Ord w 882 "_FIFOCache__order" a da dd od mx kvs ord own) (hv : (valueAt kvs k).isSome = false) :
    Does w 580 4800 786 [.ref a, .int k t, .str x t0] own (fun r own' => r = .str x t0 ∧ own' = own) := by
  obtain ⟨n, t1, t2, t3, t4, t5, t6, o1, o2, rfl, hn, d1, d2, lo1, lo2, n1, n2, n3, n4, n5, n6⟩ := O
  w_on
  walk_at "mine intro"
  k_steps
end
end
end
section
section
variable {w : World} {a da : Nat} {mx : Int} {t : Tok}
section
set_option maxHeartbeats 4000000 in
theorem lru_init0 (hlt : da < a) (hmx : 1 ≤ mx) :
    Does w 600 5000 714 [.ref a, .int mx t, .none] [(a, instObj 1044 da), (da, dictOf [] 0)] (fun r own' => r = .none ∧ ∃ (dd : Nat) (t1 t2 t3 t4 : Tok) (o1 : Obj), own' = [(dd, o1), (a, instObj 1044 da), (da, dictOf [ent w.params "_Cache__data" t1 (.ref dd), ent w.params "_Cache__currsize" t2 (.int 0 t3), ent w.params "_Cache__maxsize" t4 (.int mx t)] 3)] ∧ o1.IsDictOf (PySem.intKind lawProg w) [] ∧ dd ≠ a ∧ dd ≠ da ∧ (dd == sysModules) = false) := by
  w_on
  walk_at "mine intro"
  k_steps
  all_goals (first | assumption | omega)
end
section
set_option maxHeartbeats 4000000 in
theorem fifo_init0 (hlt : da < a) (hmx : 1 ≤ mx) :
    Does w 600 5000 714 [.ref a, .int mx t, .none] [(a, instObj 882 da), (da, dictOf [] 0)] (fun r own' => r = .none ∧ ∃ (dd : Nat) (t1 t2 t3 t4 : Tok) (o1 : Obj), own' = [(dd, o1), (a, instObj 882 da), (da, dictOf [ent w.params "_Cache__data" t1 (.ref dd), ent w.params "_Cache__currsize" t2 (.int 0 t3), ent w.params "_Cache__maxsize" t4 (.int mx t)] 3)] ∧ o1.IsDictOf (PySem.intKind lawProg w) [] ∧ dd ≠ a ∧ dd ≠ da ∧ (dd == sysModules) = false) := by
  w_on
  walk_at "mine intro"
  k_steps
  all_goals (first | assumption | omega)
end
section
set_option maxHeartbeats 4000000 in
theorem lfu_init0 (hlt : da < a) (hmx : 1 ≤ mx) :
    Does w 600 5000 714 [.ref a, .int mx t, .none] [(a, instObj 979 da), (da, dictOf [] 0)] (fun r own' => r = .none ∧ ∃ (dd : Nat) (t1 t2 t3 t4 : Tok) (o1 : Obj), own' = [(dd, o1), (a, instObj 979 da), (da, dictOf [ent w.params "_Cache__data" t1 (.ref dd), ent w.params "_Cache__currsize" t2 (.int 0 t3), ent w.params "_Cache__maxsize" t4 (.int mx t)] 3)] ∧ o1.IsDictOf (PySem.intKind lawProg w) [] ∧ dd ≠ a ∧ dd ≠ da ∧ (dd == sysModules) = false) := by
  w_on
  walk_at "mine intro"
  k_steps
  all_goals (first | assumption | omega)
end
section
local macro_rules | `(tactic| tm_at "mine call") => `(tactic| (k_here; (with_reducible show wpAny _ _ (call (Value.ref 714) _) _ _ _); k_dflt (refine' Does.use (lru_init0 ?a ?c) ?F ?X ?N ?T ?hD ?hU ?_; (case F => k_asm); (case X => k_asm); (case T => k_asm); (case N => k_asm); (case a => assumption); (case c => assumption); (case hD => walk_at "mine room"); (case hU => walk_at "mine room"); k_whole); intro v' own' h' tk' F' N' P'; (obtain ⟨e1', dd', t1', t2', t3', t4', o1', e2', d1', q1', q2', q3'⟩ := P'; subst e1'; subst e2'); (try dsimp only); (try k_sweep)))
local macro_rules | `(tactic| tm_at "mine leave") => `(tactic| (k_dflt (refine' leaveS_ ?k1 (news_init4 ?k2) ?_; (case k1 => k_asm); (case k2 => k_asm); k_whole)))
local macro_rules | `(tactic| tm_at "mine exists") => `(tactic| (refine ⟨_, _, Ord.mk rfl (by assumption) (by assumption) ⟨by assumption, by assumption, by assumption, by omega, by omega, by omega, by omega, by omega⟩⟩))
set_option maxHeartbeats 4000000 in
theorem lru_init (hlt : da < a) (hmx : 1 ≤ mx) :
    Does w 591 4901 996 [.ref a, .int mx t] [(a, instObj 1044 da), (da, dictOf [] 0)] (fun r own' => r = .none ∧ ∃ dd od, Ord w 1044 "_LRUCache__order" a da dd od mx [] [] own') := by
  w_on
  walk_at "mine intro"
  k_steps
theorem lru_make (hmx : 1 ≤ mx) : Does w 590 4900 1044 [.int mx t] [] (fun r own' => ∃ (a da dd od : Nat), r = .ref a ∧ Ord w 1044 "_LRUCache__order" a da dd od mx [] [] own') :=
  Does.make (by k_is) (by k_is) (by k_is) fun x dx hlt _ => (lru_init hlt hmx).ex fun v o p => ⟨p.1, let ⟨dd, od, q⟩ := p.2; ⟨x, dx, dd, od, rfl, q⟩⟩
end
section
local macro_rules | `(tactic| tm_at "mine call") => `(tactic| (k_here; (with_reducible show wpAny _ _ (call (Value.ref 714) _) _ _ _); k_dflt (refine' Does.use (fifo_init0 ?a ?c) ?F ?X ?N ?T ?hD ?hU ?_; (case F => k_asm); (case X => k_asm); (case T => k_asm); (case N => k_asm); (case a => assumption); (case c => assumption); (case hD => walk_at "mine room"); (case hU => walk_at "mine room"); k_whole); intro v' own' h' tk' F' N' P'; (obtain ⟨e1', dd', t1', t2', t3', t4', o1', e2', d1', q1', q2', q3'⟩ := P'; subst e1'; subst e2'); (try dsimp only); (try k_sweep)))
local macro_rules | `(tactic| tm_at "mine leave") => `(tactic| (k_dflt (refine' leaveS_ ?k1 (news_init4 ?k2) ?_; (case k1 => k_asm); (case k2 => k_asm); k_whole)))
local macro_rules | `(tactic| tm_at "mine exists") => `(tactic| (refine ⟨_, _, Ord.mk rfl (by assumption) (by assumption) ⟨by assumption, by assumption, by assumption, by omega, by omega, by omega, by omega, by omega⟩⟩))
set_option maxHeartbeats 4000000 in
theorem fifo_init (hlt : da < a) (hmx : 1 ≤ mx) :
    Does w 591 4901 849 [.ref a, .int mx t] [(a, instObj 882 da), (da, dictOf [] 0)] (fun r own' => r = .none ∧ ∃ dd od, Ord w 882 "_FIFOCache__order" a da dd od mx [] [] own') := by
  w_on
  walk_at "mine intro"
  k_steps
theorem fifo_make (hmx : 1 ≤ mx) : Does w 590 4900 882 [.int mx t] [] (fun r own' => ∃ (a da dd od : Nat), r = .ref a ∧ Ord w 882 "_FIFOCache__order" a da dd od mx [] [] own') :=
  Does.make (by k_is) (by k_is) (by k_is) fun x dx hlt _ => (fifo_init hlt hmx).ex fun v o p => ⟨p.1, let ⟨dd, od, q⟩ := p.2; ⟨x, dx, dd, od, rfl, q⟩⟩
end
end
end
section
section
variable {w : World} {n nd nk p pd pk x xd xk : Nat} {c c1 c2 : Int} {t t1 t2 : Tok} {p0 x0 : Nat}
set_option maxHeartbeats 4000000 in
theorem unlink_two (h1 : n ≠ p) (h2 : n ≠ x) (h3 : p ≠ x) (h4 : nd ≠ p) (h5 : nd ≠ x) (h6 : pd ≠ p) (h7 : pd ≠ x) (h8 : xd ≠ p) (h9 : xd ≠ x) :
    Does w 600 5000 913 [.ref n] [(n, lnk nd c t nk x p), (nd, dictOf [] 0), (p, lnk pd c1 t1 pk n p0), (pd, dictOf [] 0), (x, lnk xd c2 t2 xk x0 n), (xd, dictOf [] 0)]
      (fun r own' => r = .none ∧ own' = [(n, lnk nd c t nk x p), (nd, dictOf [] 0), (p, lnk pd c1 t1 pk x p0), (pd, dictOf [] 0), (x, lnk xd c2 t2 xk x0 p), (xd, dictOf [] 0)]) := by
  w_on
  walk_at "mine intro"
  k_steps
set_option maxHeartbeats 4000000 in
theorem unlink_one (h1 : n ≠ p) (h4 : nd ≠ p) (h6 : pd ≠ p) :
    Does w 600 5000 913 [.ref n] [(n, lnk nd c t nk p p), (nd, dictOf [] 0), (p, lnk pd c1 t1 pk n n), (pd, dictOf [] 0)]
      (fun r own' => r = .none ∧ own' = [(n, lnk nd c t nk p p), (nd, dictOf [] 0), (p, lnk pd c1 t1 pk p p), (pd, dictOf [] 0)]) := by
  w_on
  walk_at "mine intro"
  k_steps
set_option maxHeartbeats 4000000 in
theorem link_init (hlt : nd < n) :
    Does w 600 5000 906 [.ref n, .int c t] [(n, instObj 917 nd), (nd, dictOf [] 0)]
      (fun r own' => r = .none ∧ ∃ (kd : Nat) (o : Obj), own' = [(kd, o), (n, ⟨.ref 917, some nd, .plain, #[some (.int c t), some (.ref kd)]⟩), (nd, dictOf [] 0)] ∧ o.IsDictOf (PySem.intKind lawProg w) [] ∧ kd ≠ n ∧ kd ≠ nd ∧ (kd == sysModules) = false) := by
  w_on
  walk_at "mine intro"
  k_steps
  all_goals (first | assumption | omega)
theorem link_make : Does w 599 4999 917 [.int c t] [] (fun r own' => ∃ (n nd kd : Nat) (o : Obj), r = .ref n ∧ own' = [(kd, o), (n, ⟨.ref 917, some nd, .plain, #[some (.int c t), some (.ref kd)]⟩), (nd, dictOf [] 0)] ∧ o.IsDictOf (PySem.intKind lawProg w) [] ∧ nd < n ∧ kd ≠ n ∧ kd ≠ nd ∧ (kd == sysModules) = false) :=
  Does.make (by k_is) (by k_is) (by k_is) fun x dx hlt _ => (link_init hlt).ex fun v o p => ⟨p.1, let ⟨kd, o, q⟩ := p.2; ⟨x, dx, kd, o, rfl, q.1, q.2.1, hlt, q.2.2⟩⟩
end
end
section
section
variable {w : World} {a da dd ld r n nd nk p pd pk x xd xk : Nat} {c cx : Int} {t tx : Tok} {xn : Nat} {m mx : Int} {t1 t2 t3 t4 t5 t6 t7 : Tok} {o1 o3 o ox : Obj} {lk kk kx : List (Int × Value)} {k : Int} {tk : Tok}
set_option maxHeartbeats 4000000 in
theorem touch_in_place (d3 : o3.IsDictOf (PySem.intKind lawProg w) lk) (d : o.IsDictOf (PySem.intKind lawProg w) kk) (hv : valueAt lk k = some (.ref n)) (hc : cx ≠ c + 1) (hk : kk.length = 1) (lo1 : (nk == sysModules) = false)
    (hn : Nas [n, nd, x, xd, a, da, ld, nk]) :
    Does w 580 4800 976 [.ref a, .int k tk] ([(n, lnk nd c t nk x p), (nd, dictOf [] 0), (x, lnk xd cx tx xk xn n), (xd, dictOf [] 0)] ++ (lfuAt w.params a da dd ld r m mx t1 t2 t3 t4 t5 t6 t7 ++ [(ld, o3), (nk, o)]))
      (fun v own' => v = .none ∧ ∃ t', own' = [(n, lnk nd (c + 1) t' nk x p), (nd, dictOf [] 0), (x, lnk xd cx tx xk xn n), (xd, dictOf [] 0)] ++ (lfuAt w.params a da dd ld r m mx t1 t2 t3 t4 t5 t6 t7 ++ [(ld, o3), (nk, o)])) := by
  obtain ⟨⟨u0_1, u0_2, u0_3, u0_4, u0_5, u0_6, u0_7, -⟩, ⟨u1_2, u1_3, u1_4, u1_5, u1_6, u1_7, -⟩, ⟨u2_3, u2_4, u2_5, u2_6, u2_7, -⟩, ⟨u3_4, u3_5, u3_6, u3_7, -⟩, ⟨u4_5, u4_6, u4_7, -⟩, ⟨u5_6, u5_7, -⟩, ⟨u6_7, -⟩, -, -⟩ := hn
  simp only [lfuAt, List.cons_append, List.nil_append]
  w_on
  walk_at "mine intro"
  k_steps
set_option maxHeartbeats 4000000 in
theorem touch_merge_stay (d3 : o3.IsDictOf (PySem.intKind lawProg w) lk) (d : o.IsDictOf (PySem.intKind lawProg w) kk) (dx : ox.IsDictOf (PySem.intKind lawProg w) kx) (hv : valueAt lk k = some (.ref n)) (hvk : (valueAt kk k).isSome = true) (hkk : (without kk k).isEmpty = false) (lo1 : (nk == sysModules) = false) (hz1 : lk.length ≤ 64) (hz2 : kk.length ≤ 64) (hz3 : kx.length ≤ 63)
    (hn : Nas [n, nd, x, xd, a, da, ld, nk, xk]) :
    Does w 580 4800 976 [.ref a, .int k tk] ([(n, lnk nd c t nk x p), (nd, dictOf [] 0), (x, lnk xd (c + 1) tx xk xn n), (xd, dictOf [] 0)] ++ (lfuAt w.params a da dd ld r m mx t1 t2 t3 t4 t5 t6 t7 ++ [(ld, o3), (nk, o), (xk, ox)]))
      (fun v own' => v = .none ∧ ∃ o3' o' ox', own' = [(n, lnk nd c t nk x p), (nd, dictOf [] 0), (x, lnk xd (c + 1) tx xk xn n), (xd, dictOf [] 0)] ++ (lfuAt w.params a da dd ld r m mx t1 t2 t3 t4 t5 t6 t7 ++ [(ld, o3'), (nk, o'), (xk, ox')]) ∧ o3'.IsDictOf (PySem.intKind lawProg w) (stored lk k (.ref x)) ∧ o'.IsDictOf (PySem.intKind lawProg w) (without kk k) ∧ ox'.IsDictOf (PySem.intKind lawProg w) (stored kx k .none)) := by
  obtain ⟨⟨u0_1, u0_2, u0_3, u0_4, u0_5, u0_6, u0_7, u0_8, -⟩, ⟨u1_2, u1_3, u1_4, u1_5, u1_6, u1_7, u1_8, -⟩, ⟨u2_3, u2_4, u2_5, u2_6, u2_7, u2_8, -⟩, ⟨u3_4, u3_5, u3_6, u3_7, u3_8, -⟩, ⟨u4_5, u4_6, u4_7, u4_8, -⟩, ⟨u5_6, u5_7, u5_8, -⟩, ⟨u6_7, u6_8, -⟩, ⟨u7_8, -⟩, -, -⟩ := hn
  have hz4 := without_len_le kk k
  simp only [lfuAt, List.cons_append, List.nil_append]
  w_on
  walk_at "mine intro"
  k_steps
  all_goals assumption
end
end
section
section
variable {w : World} {a da dd ld r n nd nk p pd pk x xd xk : Nat} {c cx cp : Int} {t tx tp : Tok} {xn p0 : Nat} {m mx : Int} {t1 t2 t3 t4 t5 t6 t7 : Tok} {o1 o3 o ox : Obj} {lk kk kx : List (Int × Value)} {k : Int} {tk : Tok}
local macro_rules | `(tactic| tm_at "mine call") => `(tactic| (k_here; (with_reducible show wpAny _ _ (call (Value.ref 913) _) _ _ _); k_dflt (refine' Does.use6 (unlink_two ?h1 ?h2 ?h3 ?h4 ?h5 ?h6 ?h7 ?h8 ?h9) ?F ?X ?N ?ap ?T ?hD ?hU ?_; (case F => k_asm); (case X => k_asm); (case T => k_asm); (case N => k_asm); (case h1 => walk_at "mine na"); (case h2 => walk_at "mine na"); (case h3 => walk_at "mine na"); (case h4 => walk_at "mine na"); (case h5 => walk_at "mine na"); (case h6 => walk_at "mine na"); (case h7 => walk_at "mine na"); (case h8 => walk_at "mine na"); (case h9 => walk_at "mine na"); (case ap => exact apart_of_nas (by assumption) rfl); (case hD => walk_at "mine room"); (case hU => walk_at "mine room"); k_whole); intro v' own' h' tk' F' N' ap' P'; (obtain ⟨e1', e2'⟩ := P'; subst e1'; subst e2'); (try simp only [List.cons_append, List.nil_append] at N'); (try clear ap'); (try dsimp only); (try k_sweep)))
set_option maxHeartbeats 4000000 in
theorem touch_merge_go (d3 : o3.IsDictOf (PySem.intKind lawProg w) lk) (d : o.IsDictOf (PySem.intKind lawProg w) kk) (dx : ox.IsDictOf (PySem.intKind lawProg w) kx) (hv : valueAt lk k = some (.ref n)) (hvk : (valueAt kk k).isSome = true) (hkk : (without kk k).isEmpty = true) (lo1 : (nk == sysModules) = false) (hz1 : lk.length ≤ 64) (hz2 : kk.length ≤ 64) (hz3 : kx.length ≤ 63)
    (hn : Nas [n, nd, p, pd, x, xd, a, da, ld, nk, xk]) :
    Does w 580 4800 976 [.ref a, .int k tk] ([(n, lnk nd c t nk x p), (nd, dictOf [] 0), (p, lnk pd cp tp pk n p0), (pd, dictOf [] 0), (x, lnk xd (c + 1) tx xk xn n), (xd, dictOf [] 0)] ++ (lfuAt w.params a da dd ld r m mx t1 t2 t3 t4 t5 t6 t7 ++ [(ld, o3), (nk, o), (xk, ox)]))
      (fun v own' => v = .none ∧ ∃ o3' o' ox', own' = [(n, lnk nd c t nk x p), (nd, dictOf [] 0), (p, lnk pd cp tp pk x p0), (pd, dictOf [] 0), (x, lnk xd (c + 1) tx xk xn p), (xd, dictOf [] 0)] ++ (lfuAt w.params a da dd ld r m mx t1 t2 t3 t4 t5 t6 t7 ++ [(ld, o3'), (nk, o'), (xk, ox')]) ∧ o3'.IsDictOf (PySem.intKind lawProg w) (stored lk k (.ref x)) ∧ o'.IsDictOf (PySem.intKind lawProg w) (without kk k) ∧ ox'.IsDictOf (PySem.intKind lawProg w) (stored kx k .none)) := by
  have hn0 := hn
  obtain ⟨⟨u0_1, u0_2, u0_3, u0_4, u0_5, u0_6, u0_7, u0_8, u0_9, u0_10, -⟩, ⟨u1_2, u1_3, u1_4, u1_5, u1_6, u1_7, u1_8, u1_9, u1_10, -⟩, ⟨u2_3, u2_4, u2_5, u2_6, u2_7, u2_8, u2_9, u2_10, -⟩, ⟨u3_4, u3_5, u3_6, u3_7, u3_8, u3_9, u3_10, -⟩, ⟨u4_5, u4_6, u4_7, u4_8, u4_9, u4_10, -⟩, ⟨u5_6, u5_7, u5_8, u5_9, u5_10, -⟩, ⟨u6_7, u6_8, u6_9, u6_10, -⟩, ⟨u7_8, u7_9, u7_10, -⟩, ⟨u8_9, u8_10, -⟩, ⟨u9_10, -⟩, -, -⟩ := hn
  have hz4 := without_len_le kk k
  simp only [lfuAt, List.cons_append, List.nil_append]
  w_on
  walk_at "mine intro"
  k_steps
  all_goals assumption
end
end
section
section
variable {w : World} {a da dd ld r n nd nk p pd pk x xd xk : Nat} {c cx cp : Int} {t tx tp : Tok} {xn p0 : Nat} {m mx : Int} {t1 t2 t3 t4 t5 t6 t7 : Tok} {o1 o3 o ox : Obj} {lk kk kx : List (Int × Value)} {k : Int} {tk : Tok}
set_option maxHeartbeats 4000000 in
theorem touch_split (d3 : o3.IsDictOf (PySem.intKind lawProg w) lk) (d : o.IsDictOf (PySem.intKind lawProg w) kk) (hv : valueAt lk k = some (.ref n)) (hvk : (valueAt kk k).isSome = true) (hkk : (without kk k).isEmpty = false) (hk : kk.length ≠ 1) (hc : cx ≠ c + 1) (lo1 : (nk == sysModules) = false) (hz1 : lk.length ≤ 64) (hz2 : kk.length ≤ 64)
    (hn : Nas [n, nd, x, xd, a, da, ld, nk]) :
    Does w 580 4800 976 [.ref a, .int k tk] ([(n, lnk nd c t nk x p), (nd, dictOf [] 0), (x, lnk xd cx tx xk xn n), (xd, dictOf [] 0)] ++ (lfuAt w.params a da dd ld r m mx t1 t2 t3 t4 t5 t6 t7 ++ [(ld, o3), (nk, o)]))
      (fun v own' => Done (v = .none ∧ ∃ (y yd yk : Nat) (ty : Tok) (oy o3' o' : Obj), own' = [(yk, oy), (y, lnk yd (c + 1) ty yk x n), (yd, dictOf [] 0)] ++ ([(n, lnk nd c t nk y p), (nd, dictOf [] 0), (x, lnk xd cx tx xk xn y), (xd, dictOf [] 0)] ++ (lfuAt w.params a da dd ld r m mx t1 t2 t3 t4 t5 t6 t7 ++ [(ld, o3'), (nk, o')])) ∧ oy.IsDictOf (PySem.intKind lawProg w) [(k, .none)] ∧ o3'.IsDictOf (PySem.intKind lawProg w) (stored lk k (.ref y)) ∧ o'.IsDictOf (PySem.intKind lawProg w) (without kk k) ∧ (yk == sysModules) = false ∧ yk ≠ y ∧ yk ≠ yd ∧ yd ≠ y ∧ ∀ b ∈ [n, nd, x, xd, a, da, ld, nk], b ∉ [yk, y, yd])) := by
  have hn0 := hn
  obtain ⟨⟨u0_1, u0_2, u0_3, u0_4, u0_5, u0_6, u0_7, -⟩, ⟨u1_2, u1_3, u1_4, u1_5, u1_6, u1_7, -⟩, ⟨u2_3, u2_4, u2_5, u2_6, u2_7, -⟩, ⟨u3_4, u3_5, u3_6, u3_7, -⟩, ⟨u4_5, u4_6, u4_7, -⟩, ⟨u5_6, u5_7, -⟩, ⟨u6_7, -⟩, -, -⟩ := hn
  have hz4 := without_len_le kk k
  simp only [lfuAt, List.cons_append, List.nil_append]
  w_on
  walk_at "mine intro"
  k_steps
  k_dflt (refine' Does.use0 link_make ?F ?X ?N ?T ?hD ?hU ?_; (case F => k_asm); (case X => k_asm); (case T => k_asm); (case N => k_asm); (case hD => walk_at "mine room"); (case hU => walk_at "mine room"))
  intro v' own' h' tk' F' N' apn P'
  obtain ⟨y, yd, yk, oy, e1, e2, dy, hyd, hyk, hykd, loy⟩ := P'
  subst e1
  subst e2
  (simp only [List.cons_append, List.nil_append] at N')
  dsimp only
  k_sweep
  k_steps
  exact ⟨rfl, y, yd, yk, _, _, _, _, rfl, by assumption, by assumption, by assumption, loy, hyk, hykd, Nat.ne_of_lt hyd, fun b hb => apn b hb⟩
end
end
section
section
variable {w : World} {a da dd ld r : Nat} {mx : Int} {kvs : List (Int × Value)} {own : List (Addr × Obj)} {k k0 : Int} {t : Tok} {v v0 : Value}
set_option maxHeartbeats 4000000 in
theorem lfu_contains (O : LfuB w a da dd ld r mx kvs own) :
    Does w 600 5000 749 [.ref a, .int k t] own (fun r' own' => r' = .bool (valueAt kvs k).isSome ∧ own' = own) := by
  obtain ⟨n, t1, t2, t3, t4, t5, t6, t7, o1, rfl, hn, d1, lo1, hN⟩ := O
  have hN0 := hN
  obtain ⟨⟨u1, u2, -⟩, ⟨u3, -⟩, -⟩ := hN
  w_on
  walk_at "mine intro"
  k_steps
set_option maxHeartbeats 4000000 in
theorem lfu_get0 (O : LfuB w a da dd ld r mx kvs own) (hv : valueAt kvs k = some v) :
    Does w 600 5000 728 [.ref a, .int k t] own (fun r' own' => r' = v ∧ own' = own) := by
  obtain ⟨n, t1, t2, t3, t4, t5, t6, t7, o1, rfl, hn, d1, lo1, hN⟩ := O
  have hN0 := hN
  obtain ⟨⟨u1, u2, -⟩, ⟨u3, -⟩, -⟩ := hN
  w_on
  walk_at "mine intro"
  k_steps
set_option maxHeartbeats 4000000 in
theorem lfu_del0 (O : LfuB w a da dd ld r mx kvs own) (hv : (valueAt kvs k).isSome = true) (hz : kvs.length ≤ 64) :
    Does w 600 5000 742 [.ref a, .int k t] own (fun r' own' => r' = .none ∧ LfuB w a da dd ld r mx (without kvs k) own') := by
  obtain ⟨n, t1, t2, t3, t4, t5, t6, t7, o1, rfl, hn, d1, lo1, hN⟩ := O
  have hN0 := hN
  obtain ⟨⟨u1, u2, -⟩, ⟨u3, -⟩, -⟩ := hN
  w_on
  walk_at "mine intro"
  k_steps
set_option maxHeartbeats 4000000 in
theorem lfu_len (O : LfuB w a da dd ld r mx kvs own) (hz : kvs.length ≤ 64) :
    Does w 600 5000 770 [.ref a] own (fun r' own' => (∃ tk, r' = .int kvs.length tk) ∧ own' = own) := by
  obtain ⟨n, t1, t2, t3, t4, t5, t6, t7, o1, rfl, hn, d1, lo1, hN⟩ := O
  have hN0 := hN
  obtain ⟨⟨u1, u2, -⟩, ⟨u3, -⟩, -⟩ := hN
  w_on
  walk_at "mine intro"
  k_steps
set_option maxHeartbeats 4000000 in
theorem lfu_iter (O : LfuB w a da dd ld r mx kvs own) :
    Does w 600 5000 763 [.ref a] own (fun r' own' => ∃ I oI ep o1, r' = .ref I ∧ own' = (I, oI) :: own ∧ (dd, o1) ∈ own ∧ KdkIter oI dd 0 kvs.length ep ∧ KdkAt (PySem.intKind lawProg w) o1 kvs ep) := by
  obtain ⟨n, t1, t2, t3, t4, t5, t6, t7, o1, rfl, hn, d1, lo1, hN⟩ := O
  have hN0 := hN
  obtain ⟨⟨u1, u2, -⟩, ⟨u3, -⟩, -⟩ := hN
  w_on
  walk_at "mine intro"
  k_steps
  all_goals (first | k_mem | assumption)
set_option maxHeartbeats 4000000 in
theorem lfu_set0_old (O : LfuB w a da dd ld r mx kvs own) (hv : (valueAt kvs k).isSome = true) (hz : kvs.length ≤ 64) (hmx : 1 ≤ mx) :
    Does w 570 4700 735 [.ref a, .int k t, v] own (fun r' own' => r' = .none ∧ LfuB w a da dd ld r mx (stored kvs k v) own') := by
  obtain ⟨n, t1, t2, t3, t4, t5, t6, t7, o1, rfl, hn, d1, lo1, hN⟩ := O
  have hN0 := hN
  obtain ⟨⟨u1, u2, -⟩, ⟨u3, -⟩, -⟩ := hN
  w_on
  walk_at "mine intro"
  k_steps
set_option maxHeartbeats 4000000 in
theorem lfu_set0_new (O : LfuB w a da dd ld r mx kvs own) (hv : (valueAt kvs k).isSome = false) (hz : kvs.length ≤ 63) (hmx : (kvs.length : Int) < mx) :
    Does w 570 4700 735 [.ref a, .int k t, v] own (fun r' own' => r' = .none ∧ LfuB w a da dd ld r mx (stored kvs k v) own') := by
  obtain ⟨n, t1, t2, t3, t4, t5, t6, t7, o1, rfl, hn, d1, lo1, hN⟩ := O
  have hN0 := hN
  obtain ⟨⟨u1, u2, -⟩, ⟨u3, -⟩, -⟩ := hN
  w_on
  walk_at "mine intro"
  k_steps
end
end
section
section
variable {w : World} {a da dd ld r n nd nk p pd pk x xd xk : Nat} {c cx cp : Int} {t tx tp : Tok} {xn p0 x0 : Nat} {m mx : Int} {o1 o3 o ox ob : Obj} {lk kk kx kvs : List (Int × Value)} {k : Int} {tk : Tok} {own : List (Addr × Obj)}
local macro_rules | `(tactic| tm_at "mine call") => `(tactic| (k_here; (with_reducible show wpAny _ _ (call (Value.ref 742) _) _ _ _); k_dflt (refine' Does.use3 (lfu_del0 ?O ?hv ?hz) ?F ?X ?N ?ap ?T ?hD ?hU ?_; (case F => k_asm); (case X => k_asm); (case T => k_asm); (case N => k_asm); (case O => walk_at "LfuB"); (case hv => assumption); (case hz => omega); (case ap => exact apart_of_nas (by assumption) rfl); (case hD => walk_at "mine room"); (case hU => walk_at "mine room"); k_whole); intro v' own' h' tk' F' N' ap' P'; (obtain ⟨e1', n', t1', t2', t3', t4', t5', t6', t7', o1', e2', hn', d1', lo1', -⟩ := P'; subst e1'; subst e2'); (try clear ap'); (replace N' := news_rot3 N'); (try simp only [List.cons_append, List.nil_append] at N'); (try dsimp only); (try k_sweep)))
set_option maxHeartbeats 4000000 in
theorem lfu_del_stay (O : LfuB w a da dd ld r mx kvs own) (d3 : o3.IsDictOf (PySem.intKind lawProg w) lk) (d : o.IsDictOf (PySem.intKind lawProg w) kk) (hvd : (valueAt kvs k).isSome = true) (hv : valueAt lk k = some (.ref n)) (hvk : (valueAt kk k).isSome = true) (hkk : (without kk k).isEmpty = false) (lo1 : (nk == sysModules) = false) (hz : kvs.length ≤ 64) (hz1 : lk.length ≤ 64) (hz2 : kk.length ≤ 64)
    (hn : Nas [a, da, dd, n, nd, ld, nk]) :
    Does w 590 4900 955 [.ref a, .int k tk] (own ++ [(n, lnk nd c t nk x p), (nd, dictOf [] 0), (ld, o3), (nk, o)])
      (fun v own' => v = .none ∧ ∃ o3' o' ob', own' = [(n, lnk nd c t nk x p), (nd, dictOf [] 0), (ld, o3'), (nk, o')] ++ ob' ∧ LfuB w a da dd ld r mx (without kvs k) ob' ∧ o3'.IsDictOf (PySem.intKind lawProg w) (without lk k) ∧ o'.IsDictOf (PySem.intKind lawProg w) (without kk k)) := by
  obtain ⟨n0, t1, t2, t3, t4, t5, t6, t7, o1, rfl, hn0, d1, lo2, hN3⟩ := O
  have hN0 := hn
  obtain ⟨⟨u0_1, u0_2, u0_3, u0_4, u0_5, u0_6, -⟩, ⟨u1_2, u1_3, u1_4, u1_5, u1_6, -⟩, ⟨u2_3, u2_4, u2_5, u2_6, -⟩, ⟨u3_4, u3_5, u3_6, -⟩, ⟨u4_5, u4_6, -⟩, ⟨u5_6, -⟩, -, -⟩ := hn
  have hN2 : Nas [n, nd, ld, nk, a, da, dd] := nas_of ((List.Perm.nodup_iff (by first | exact List.perm_append_comm (l₁ := [a, da, dd]) (l₂ := [n, nd, ld, nk]))).mp hN0.nodup)
  have hz4 := without_len_le kk k
  simp only [lfuOwn3, List.cons_append, List.nil_append]
  w_on
  walk_at "mine intro"
  k_steps
  all_goals first | assumption | (walk_at "LfuB")
local macro_rules | `(tactic| tm_at "mine call") => `(tactic| (k_here; (with_reducible show wpAny _ _ (call (Value.ref 913) _) _ _ _); k_dflt (refine' Does.use6 (unlink_two ?h1 ?h2 ?h3 ?h4 ?h5 ?h6 ?h7 ?h8 ?h9) ?F ?X ?N ?ap ?T ?hD ?hU ?_; (case F => k_asm); (case X => k_asm); (case T => k_asm); (case N => k_asm); (case h1 => walk_at "mine na"); (case h2 => walk_at "mine na"); (case h3 => walk_at "mine na"); (case h4 => walk_at "mine na"); (case h5 => walk_at "mine na"); (case h6 => walk_at "mine na"); (case h7 => walk_at "mine na"); (case h8 => walk_at "mine na"); (case h9 => walk_at "mine na"); (case ap => exact apart_of_nas (by assumption) rfl); (case hD => walk_at "mine room"); (case hU => walk_at "mine room"); k_whole); intro v' own' h' tk' F' N' ap' P'; (obtain ⟨e1', e2'⟩ := P'; subst e1'; subst e2'); (try simp only [List.cons_append, List.nil_append] at N'); (try clear ap'); (try dsimp only); (try k_sweep)))
set_option maxHeartbeats 4000000 in
theorem lfu_del_two (O : LfuB w a da dd ld r mx kvs own) (d3 : o3.IsDictOf (PySem.intKind lawProg w) lk) (d : o.IsDictOf (PySem.intKind lawProg w) kk) (hvd : (valueAt kvs k).isSome = true) (hv : valueAt lk k = some (.ref n)) (hvk : (valueAt kk k).isSome = true) (hkk : (without kk k).isEmpty = true) (lo1 : (nk == sysModules) = false) (hz : kvs.length ≤ 64) (hz1 : lk.length ≤ 64) (hz2 : kk.length ≤ 64)
    (hn : Nas [a, da, dd, n, nd, p, pd, x, xd, ld, nk]) :
    Does w 590 4900 955 [.ref a, .int k tk] (own ++ [(n, lnk nd c t nk x p), (nd, dictOf [] 0), (p, lnk pd cp tp pk n p0), (pd, dictOf [] 0), (x, lnk xd cx tx xk x0 n), (xd, dictOf [] 0), (ld, o3), (nk, o)])
      (fun v own' => v = .none ∧ ∃ o3' o' ob', own' = [(n, lnk nd c t nk x p), (nd, dictOf [] 0), (p, lnk pd cp tp pk x p0), (pd, dictOf [] 0), (x, lnk xd cx tx xk x0 p), (xd, dictOf [] 0), (ld, o3'), (nk, o')] ++ ob' ∧ LfuB w a da dd ld r mx (without kvs k) ob' ∧ o3'.IsDictOf (PySem.intKind lawProg w) (without lk k) ∧ o'.IsDictOf (PySem.intKind lawProg w) (without kk k)) := by
  obtain ⟨n0, t1, t2, t3, t4, t5, t6, t7, o1, rfl, hn0, d1, lo2, hN3⟩ := O
  have hN0 := hn
  obtain ⟨⟨u0_1, u0_2, u0_3, u0_4, u0_5, u0_6, u0_7, u0_8, u0_9, u0_10, -⟩, ⟨u1_2, u1_3, u1_4, u1_5, u1_6, u1_7, u1_8, u1_9, u1_10, -⟩, ⟨u2_3, u2_4, u2_5, u2_6, u2_7, u2_8, u2_9, u2_10, -⟩, ⟨u3_4, u3_5, u3_6, u3_7, u3_8, u3_9, u3_10, -⟩, ⟨u4_5, u4_6, u4_7, u4_8, u4_9, u4_10, -⟩, ⟨u5_6, u5_7, u5_8, u5_9, u5_10, -⟩, ⟨u6_7, u6_8, u6_9, u6_10, -⟩, ⟨u7_8, u7_9, u7_10, -⟩, ⟨u8_9, u8_10, -⟩, ⟨u9_10, -⟩, -, -⟩ := hn
  have hN2 : Nas [n, nd, p, pd, x, xd, ld, nk, a, da, dd] := nas_of ((List.Perm.nodup_iff (by first | exact List.perm_append_comm (l₁ := [a, da, dd]) (l₂ := [n, nd, p, pd, x, xd, ld, nk]))).mp hN0.nodup)
  have hz4 := without_len_le kk k
  simp only [lfuOwn3, List.cons_append, List.nil_append]
  w_on
  walk_at "mine intro"
  k_steps
  all_goals first | assumption | (walk_at "LfuB")
local macro_rules | `(tactic| tm_at "mine call") => `(tactic| (k_here; (with_reducible show wpAny _ _ (call (Value.ref 913) _) _ _ _); k_dflt (refine' Does.use4 (unlink_one ?h1 ?h4 ?h6) ?F ?X ?N ?ap ?T ?hD ?hU ?_; (case F => k_asm); (case X => k_asm); (case T => k_asm); (case N => k_asm); (case h1 => walk_at "mine na"); (case h4 => walk_at "mine na"); (case h6 => walk_at "mine na"); (case ap => exact apart_of_nas (by assumption) rfl); (case hD => walk_at "mine room"); (case hU => walk_at "mine room"); k_whole); intro v' own' h' tk' F' N' ap' P'; (obtain ⟨e1', e2'⟩ := P'; subst e1'; subst e2'); (try simp only [List.cons_append, List.nil_append] at N'); (try clear ap'); (try dsimp only); (try k_sweep)))
set_option maxHeartbeats 4000000 in
theorem lfu_del_one (O : LfuB w a da dd ld r mx kvs own) (d3 : o3.IsDictOf (PySem.intKind lawProg w) lk) (d : o.IsDictOf (PySem.intKind lawProg w) kk) (hvd : (valueAt kvs k).isSome = true) (hv : valueAt lk k = some (.ref n)) (hvk : (valueAt kk k).isSome = true) (hkk : (without kk k).isEmpty = true) (lo1 : (nk == sysModules) = false) (hz : kvs.length ≤ 64) (hz1 : lk.length ≤ 64) (hz2 : kk.length ≤ 64)
    (hn : Nas [a, da, dd, n, nd, p, pd, ld, nk]) :
    Does w 590 4900 955 [.ref a, .int k tk] (own ++ [(n, lnk nd c t nk p p), (nd, dictOf [] 0), (p, lnk pd cp tp pk n n), (pd, dictOf [] 0), (ld, o3), (nk, o)])
      (fun v own' => v = .none ∧ ∃ o3' o' ob', own' = [(n, lnk nd c t nk p p), (nd, dictOf [] 0), (p, lnk pd cp tp pk p p), (pd, dictOf [] 0), (ld, o3'), (nk, o')] ++ ob' ∧ LfuB w a da dd ld r mx (without kvs k) ob' ∧ o3'.IsDictOf (PySem.intKind lawProg w) (without lk k) ∧ o'.IsDictOf (PySem.intKind lawProg w) (without kk k)) := by
  obtain ⟨n0, t1, t2, t3, t4, t5, t6, t7, o1, rfl, hn0, d1, lo2, hN3⟩ := O
  have hN0 := hn
  obtain ⟨⟨u0_1, u0_2, u0_3, u0_4, u0_5, u0_6, u0_7, u0_8, -⟩, ⟨u1_2, u1_3, u1_4, u1_5, u1_6, u1_7, u1_8, -⟩, ⟨u2_3, u2_4, u2_5, u2_6, u2_7, u2_8, -⟩, ⟨u3_4, u3_5, u3_6, u3_7, u3_8, -⟩, ⟨u4_5, u4_6, u4_7, u4_8, -⟩, ⟨u5_6, u5_7, u5_8, -⟩, ⟨u6_7, u6_8, -⟩, ⟨u7_8, -⟩, -, -⟩ := hn
  have hN2 : Nas [n, nd, p, pd, ld, nk, a, da, dd] := nas_of ((List.Perm.nodup_iff (by first | exact List.perm_append_comm (l₁ := [a, da, dd]) (l₂ := [n, nd, p, pd, ld, nk]))).mp hN0.nodup)
  have hz4 := without_len_le kk k
  simp only [lfuOwn3, List.cons_append, List.nil_append]
  w_on
  walk_at "mine intro"
  k_steps
  all_goals first | assumption | (walk_at "LfuB")
end
end
section
section
variable {w : World} {a da dd ld r rd x xd xk rk : Nat} {cx : Int} {tr tx : Tok} {xn pv : Nat} {mx : Int} {o3 ox ob : Obj} {lk kk kvs : List (Int × Value)} {k k0 : Int} {t t0 tk : Tok} {v v0 vo : Value} {own rest : List (Addr × Obj)} {PT : Value → List (Addr × Obj) → Prop} {PD : List (Addr × Obj) → Prop}
section
local macro_rules | `(tactic| tm_at "mine call") => `(tactic| (k_here; (with_reducible show wpAny _ _ (call (Value.ref 728) _) _ _ _); k_dflt (refine' Does.use3 (lfu_get0 ?O ?hv) ?F ?X ?N ?ap ?T ?hD ?hU ?_; (case F => k_asm); (case X => k_asm); (case T => k_asm); (first | ((case N => k_asm); (case O => walk_at "LfuB")) | ((case N => exact news_drop (by k_asm)); (case O => walk_at "LfuB"))); (case hv => assumption); (case ap => assumption); (case hD => walk_at "mine room"); (case hU => walk_at "mine room"); k_whole); intro v' own' h' tk' F' N' ap' P'; (obtain ⟨e1', e2'⟩ := P'; subst e1'; subst e2'); (try clear ap'); (try simp only [lfuOwn3, List.cons_append, List.nil_append] at N'); (try dsimp only); (try k_sweep)))
local macro_rules | `(tactic| tm_at "mine call") => `(tactic| (k_here; (with_reducible show wpAny _ _ (call (Value.ref 976) _) _ _ _); k_dflt (refine' Does.use (by assumption) ?F ?X ?N ?T ?hD ?hU ?_; (case F => k_asm); (case X => k_asm); (case T => k_asm); (first | (case N => k_asm) | (case N => exact news_drop (by k_asm))); (case hD => walk_at "mine room"); (case hU => walk_at "mine room"); k_whole); intro v' own' h' tk' F' N' P'; (try skip); (try dsimp only); (try k_sweep)))
set_option maxHeartbeats 4000000 in
theorem lfu_get_gen (O : LfuB w a da dd ld r mx kvs own) (d3 : o3.IsDictOf (PySem.intKind lawProg w) lk) (lo3 : (ld == sysModules) = false) (hv : valueAt kvs k = some v) (hvl : (valueAt lk k).isSome = true) (ap : Apart own ((ld, o3) :: rest))
    (St : ∀ tk, Does w 580 4800 976 [.ref a, .int k tk] (own ++ (ld, o3) :: rest) PT) :
    Does w 570 4790 939 [.ref a, .int k t] (own ++ (ld, o3) :: rest) (fun r' own' => r' = v ∧ ∃ v', PT v' own') := by
  obtain ⟨n0, t1, t2, t3, t4, t5, t6, t7, o1, rfl, hn0, d1, lo2, hN3⟩ := O
  have hN3' := hN3
  obtain ⟨⟨u1, u2, -⟩, ⟨u3, -⟩, -⟩ := hN3'
  have St' := St t
  clear St
  simp only [lfuOwn3, List.cons_append, List.nil_append] at St' ap ⊢
  w_on
  walk_at "mine intro"
  k_steps
  all_goals assumption
end
section
local macro_rules | `(tactic| tm_at "mine call") => `(tactic| (k_here; (with_reducible show wpAny _ _ (call (Value.ref 728) _) _ _ _); k_dflt (refine' Does.use3 (lfu_get0 ?O ?hv) ?F ?X ?N ?ap ?T ?hD ?hU ?_; (case F => k_asm); (case X => k_asm); (case T => k_asm); (first | ((case N => k_asm); (case O => walk_at "LfuB")) | ((case N => exact news_drop (by k_asm)); (case O => walk_at "LfuB"))); (case hv => assumption); (case ap => assumption); (case hD => walk_at "mine room"); (case hU => walk_at "mine room"); k_whole); intro v' own' h' tk' F' N' ap' P'; (obtain ⟨e1', e2'⟩ := P'; subst e1'; subst e2'); (try clear ap'); (try simp only [lfuOwn3, List.cons_append, List.nil_append] at N'); (try dsimp only); (try k_sweep)))
local macro_rules | `(tactic| tm_at "mine call") => `(tactic| (k_here; (with_reducible show wpAny _ _ (call (Value.ref 955) _) _ _ _); (with_reducible rename (∀ _, Does _ _ _ _ _ _ _) => SdU'); k_dflt (refine' Does.use (SdU' _) ?F ?X ?N ?T ?hD ?hU ?_; (case F => k_asm); (case X => k_asm); (case T => k_asm); (first | (case N => k_asm) | (case N => exact news_drop (by k_asm))); (case hD => walk_at "mine room"); (case hU => walk_at "mine room"); k_whole); intro v' own' h' tk' F' N' P'; (obtain ⟨e1', P'⟩ := P'; subst e1'); (try dsimp only); (try k_sweep)))
set_option maxHeartbeats 4000000 in
theorem lfu_popitem_gen (O : LfuB w a da dd ld r mx kvs own) (dx : ox.IsDictOf (PySem.intKind lawProg w) kk) (lox : (xk == sysModules) = false) (hx : kk[0]? = some (k0, vo)) (hv : valueAt kvs k0 = some v)
    (ap : Apart own ((ld, o3) :: (r, lnk rd 0 tr rk x pv) :: (rd, dictOf [] 0) :: (x, lnk xd cx tx xk xn r) :: (xd, dictOf [] 0) :: (xk, ox) :: rest)) (hxr : Na x r)
    (Sd : ∀ tk, Does w 578 4780 955 [.ref a, .int k0 tk] (own ++ (ld, o3) :: (r, lnk rd 0 tr rk x pv) :: (rd, dictOf [] 0) :: (x, lnk xd cx tx xk xn r) :: (xd, dictOf [] 0) :: (xk, ox) :: rest) (fun r' own' => r' = .none ∧ PD own')) :
    Does w 570 4770 962 [.ref a] (own ++ (ld, o3) :: (r, lnk rd 0 tr rk x pv) :: (rd, dictOf [] 0) :: (x, lnk xd cx tx xk xn r) :: (xd, dictOf [] 0) :: (xk, ox) :: rest)
      (fun r' own' => ∃ T tk own2, r' = .ref T ∧ own' = (T, { cls := .type "tuple", data := .seq #[.int k0 tk, v] }) :: own2 ∧ PD own2) := by
  obtain ⟨n0, t1, t2, t3, t4, t5, t6, t7, o1, rfl, hn0, d1, lo2, hN3⟩ := O
  have hN3' := hN3
  obtain ⟨⟨u1, u2, -⟩, ⟨u3, -⟩, -⟩ := hN3'
  simp only [lfuOwn3, List.cons_append, List.nil_append] at Sd ap ⊢
  w_on
  walk_at "mine intro"
  k_steps
  all_goals assumption
end
end
end
section
section
variable {w : World} {a da dd ld r rd x xd xk rk : Nat} {cx : Int} {tr tx : Tok} {xn pv : Nat} {mx : Int} {o3 ox ob : Obj} {lk kk kvs kvs' : List (Int × Value)} {k k0 : Int} {t t0 tk : Tok} {v v0 vo : Value} {own rest : List (Addr × Obj)} {PT : Value → List (Addr × Obj) → Prop} {PD : List (Addr × Obj) → Prop} {PR : List (Addr × Obj) → Prop}
section
local macro_rules | `(tactic| tm_at "mine call") => `(tactic| (k_here; (with_reducible show wpAny _ _ (call (Value.ref 749) _) _ _ _); k_dflt (refine' Does.use3 (lfu_contains ?O) ?F ?X ?N ?ap ?T ?hD ?hU ?_; (case F => k_asm); (case X => k_asm); (case T => k_asm); (first | ((case N => k_asm); (case O => walk_at "LfuB")) | ((case N => exact news_drop (by k_asm)); (case O => walk_at "LfuB")));  (case ap => assumption); (case hD => walk_at "mine room"); (case hU => walk_at "mine room"); k_whole); intro v' own' h' tk' F' N' ap' P'; (obtain ⟨e1', e2'⟩ := P'; subst e1'; subst e2'); (try clear ap'); (try simp only [lfuOwn3, List.cons_append, List.nil_append] at N'); (try dsimp only); (try k_sweep)))
local macro_rules | `(tactic| tm_at "mine call") => `(tactic| (k_here; (with_reducible show wpAny _ _ (call (Value.ref 939) _) _ _ _); k_dflt (refine' Does.use ?S ?F ?X ?N ?T ?hD ?hU ?_; (case S => assumption); (case F => k_asm); (case X => k_asm); (case T => k_asm); (first | (case N => k_asm) | (case N => exact news_drop (by k_asm))); (case hD => walk_at "mine room"); (case hU => walk_at "mine room"); k_whole); intro v' own' h' tk' F' N' P'; (obtain ⟨e1', P'⟩ := P'; subst e1'); (try dsimp only); (try k_sweep)))
set_option maxHeartbeats 4000000 in
theorem lfu_read_in (O : LfuB w a da dd ld r mx kvs own) (hv1 : (valueAt kvs k).isSome = true) (ap : Apart own rest)
    (Sg : Does w 570 4790 939 [.ref a, .int k t] (own ++ rest) (fun r' own' => r' = v ∧ PD own')) :
    Does w 560 4780 778 [.ref a, .int k t, v0] (own ++ rest) (fun r' own' => r' = v ∧ PD own') := by
  obtain ⟨n0, t1, t2, t3, t4, t5, t6, t7, o1, rfl, hn0, d1, lo2, hN3⟩ := O
  have hN3' := hN3
  obtain ⟨⟨u1, u2, -⟩, ⟨u3, -⟩, -⟩ := hN3'
  simp only [lfuOwn3, List.cons_append, List.nil_append] at Sg ap ⊢
  w_on
  walk_at "mine intro"
  k_steps
  all_goals assumption
set_option maxHeartbeats 4000000 in
theorem lfu_read_out (O : LfuB w a da dd ld r mx kvs own) (hv1 : (valueAt kvs k).isSome = false) (ap : Apart own rest) :
    Does w 560 4780 778 [.ref a, .int k t, v0] (own ++ rest) (fun r' own' => r' = v0 ∧ own' = own ++ rest) := by
  obtain ⟨n0, t1, t2, t3, t4, t5, t6, t7, o1, rfl, hn0, d1, lo2, hN3⟩ := O
  have hN3' := hN3
  obtain ⟨⟨u1, u2, -⟩, ⟨u3, -⟩, -⟩ := hN3'
  simp only [lfuOwn3, List.cons_append, List.nil_append] at ap ⊢
  w_on
  walk_at "mine intro"
  k_steps
set_option maxHeartbeats 4000000 in
theorem lfu_pop_out {x : Str} (O : LfuB w a da dd ld r mx kvs own) (hv1 : (valueAt kvs k).isSome = false) (ap : Apart own rest) :
    Does w 560 4780 786 [.ref a, .int k t, .str x t0] (own ++ rest) (fun r' own' => r' = .str x t0 ∧ own' = own ++ rest) := by
  obtain ⟨n0, t1, t2, t3, t4, t5, t6, t7, o1, rfl, hn0, d1, lo2, hN3⟩ := O
  have hN3' := hN3
  obtain ⟨⟨u1, u2, -⟩, ⟨u3, -⟩, -⟩ := hN3'
  simp only [lfuOwn3, List.cons_append, List.nil_append] at ap ⊢
  w_on
  walk_at "mine intro"
  k_steps
end
section
local macro_rules | `(tactic| tm_at "mine call") => `(tactic| (k_here; (with_reducible show wpAny _ _ (call (Value.ref 749) _) _ _ _); k_dflt (refine' Does.use3 (lfu_contains ?O) ?F ?X ?N ?ap ?T ?hD ?hU ?_; (case F => k_asm); (case X => k_asm); (case T => k_asm); (first | ((case N => k_asm); (case O => walk_at "LfuB")) | ((case N => exact news_drop (by k_asm)); (case O => walk_at "LfuB")));  (case ap => assumption); (case hD => walk_at "mine room"); (case hU => walk_at "mine room"); k_whole); intro v' own' h' tk' F' N' ap' P'; (obtain ⟨e1', e2'⟩ := P'; subst e1'; subst e2'); (try clear ap'); (try simp only [lfuOwn3, List.cons_append, List.nil_append] at N'); (try dsimp only); (try k_sweep)))
local macro_rules | `(tactic| tm_at "mine call") => `(tactic| (k_here; (with_reducible show wpAny _ _ (call (Value.ref 939) _) _ _ _); k_dflt (refine' Does.use ?S ?F ?X ?N ?T ?hD ?hU ?_; (case S => assumption); (case F => k_asm); (case X => k_asm); (case T => k_asm); (first | (case N => k_asm) | (case N => exact news_drop (by k_asm))); (case hD => walk_at "mine room"); (case hU => walk_at "mine room"); k_whole); intro v' own' h' tk' F' N' P'; (obtain ⟨e1', n', t1', t2', t3', t4', t5', t6', t7', o1', rest', e2', SdU'⟩ := P'; subst e1'; subst e2'; try simp only [lfuOwn3, List.cons_append, List.nil_append] at SdU' N'); (try dsimp only); (try k_sweep)))
local macro_rules | `(tactic| tm_at "mine call") => `(tactic| (k_here; (with_reducible show wpAny _ _ (call (Value.ref 955) _) _ _ _); k_dflt (refine' Does.use ?S ?F ?X ?N ?T ?hD ?hU ?_; (case S => assumption); (case F => k_asm); (case X => k_asm); (case T => k_asm); (first | (case N => k_asm) | (case N => exact news_drop (by k_asm))); (case hD => walk_at "mine room"); (case hU => walk_at "mine room"); k_whole); intro v' own' h' tk' F' N' P'; (obtain ⟨e1', P'⟩ := P'; subst e1'); (try dsimp only); (try k_sweep)))
set_option maxHeartbeats 4000000 in
theorem lfu_pop_in (O : LfuB w a da dd ld r mx kvs own) (hv1 : (valueAt kvs k).isSome = true) (ap : Apart own rest)
    (Sg : Does w 570 4790 939 [.ref a, .int k t] (own ++ rest) (fun r' own' => r' = v ∧ ∃ n t1 t2 t3 t4 t5 t6 t7 o1 rest', own' = lfuOwn3 w.params a da dd ld r n mx t1 t2 t3 t4 t5 t6 t7 o1 ++ rest' ∧ Does w 578 4780 955 [.ref a, .int k t] own' (fun r' own' => r' = .none ∧ PD own'))) :
    Does w 560 4770 786 [.ref a, .int k t, v0] (own ++ rest) (fun r' own' => r' = v ∧ PD own') := by
  obtain ⟨n0, t1, t2, t3, t4, t5, t6, t7, o1, rfl, hn0, d1, lo2, hN3⟩ := O
  have hN3' := hN3
  obtain ⟨⟨u1, u2, -⟩, ⟨u3, -⟩, -⟩ := hN3'
  simp only [lfuOwn3, List.cons_append, List.nil_append] at Sg ap ⊢
  w_on
  walk_at "mine intro"
  k_steps
  all_goals assumption
end
section
local macro_rules | `(tactic| tm_at "mine call") => `(tactic| (k_here; (with_reducible show wpAny _ _ (call (Value.ref 962) _) _ _ _); k_dflt (refine' Does.use ?S ?F ?X ?N ?T ?hD ?hU ?_; (case S => assumption); (case F => k_asm); (case X => k_asm); (case T => k_asm); (first | (case N => k_asm) | (case N => exact news_drop (by k_asm))); (case hD => walk_at "mine room"); (case hU => walk_at "mine room"); k_whole); intro v' own' h' tk' F' N' P'; (obtain ⟨T', tkk', own2', e1', e2', nn', t1', t2', t3', t4', t5', t6', t7', o1', rest', e3', hn', d1', lo1', ap2', P2'⟩ := P'; subst e1'; subst e2'; subst e3'; replace N' := news_drop N'; (obtain ⟨hr1', hr2', hr3'⟩ := apart_three ap2'); (try simp only [lfuOwn3, List.cons_append, List.nil_append] at N')); (try dsimp only); (try k_sweep)))
set_option maxHeartbeats 4000000 in
theorem lfu_set0_full (O : LfuB w a da dd ld r mx kvs own) (hv : (valueAt kvs k).isSome = false) (hv' : (valueAt kvs' k).isSome = false) (hz : kvs'.length ≤ 63) (hmx : (kvs.length : Int) = mx) (hmx1 : 1 ≤ mx) (hl : (kvs'.length : Int) = kvs.length - 1) (ap : Apart own rest)
    (Sp : Does w 570 4770 962 [.ref a] (own ++ rest) (fun r' own' => ∃ T tk own2, r' = .ref T ∧ own' = (T, { cls := .type "tuple", data := .seq #[.int k0 tk, v0] }) :: own2 ∧
      ∃ n t1 t2 t3 t4 t5 t6 t7 o1 rest', own2 = lfuOwn3 w.params a da dd ld r n mx t1 t2 t3 t4 t5 t6 t7 o1 ++ rest' ∧ n = kvs'.length ∧ o1.IsDictOf (PySem.intKind lawProg w) kvs' ∧ (dd == sysModules) = false ∧ Apart (lfuOwn3 w.params a da dd ld r n mx t1 t2 t3 t4 t5 t6 t7 o1) rest' ∧ PR rest')) :
    Does w 560 4760 735 [.ref a, .int k t, v] (own ++ rest) (fun r' own' => r' = .none ∧ ∃ n t1 t2 t3 t4 t5 t6 t7 o1 rest', own' = lfuOwn3 w.params a da dd ld r n mx t1 t2 t3 t4 t5 t6 t7 o1 ++ rest' ∧ n = (stored kvs' k v).length ∧ o1.IsDictOf (PySem.intKind lawProg w) (stored kvs' k v) ∧ (dd == sysModules) = false ∧ Apart (lfuOwn3 w.params a da dd ld r n mx t1 t2 t3 t4 t5 t6 t7 o1) rest' ∧ PR rest') := by
  obtain ⟨n0, t1, t2, t3, t4, t5, t6, t7, o1, rfl, hn0, d1, lo2, hN3⟩ := O
  have hN3' := hN3
  obtain ⟨⟨u1, u2, -⟩, ⟨u3, -⟩, -⟩ := hN3'
  simp only [lfuOwn3, List.cons_append, List.nil_append] at Sp ap ⊢
  w_on
  walk_at "mine intro"
  k_steps
  all_goals first | assumption | (walk_at "mine len")
end
end
end
section
section
variable {w : World} {a da dd ld r : Nat} {mx : Int} {k : Int} {t : Tok} {v : Value} {own0 : List (Addr × Obj)}
set_option maxHeartbeats 4000000 in
theorem lfu_set_touch {PT : Value → List (Addr × Obj) → Prop}
    (S0 : Does w 560 4690 735 [.ref a, .int k t, v] own0 (fun r' own' => r' = .none ∧ ∃ kvs lk ch, LfuIs w a da dd ld r mx kvs lk ch own' ∧ (valueAt lk k).isSome = true ∧ Does w 580 4800 976 [.ref a, .int k t] own' PT)) :
    Does w 550 4680 947 [.ref a, .int k t, v] own0 (fun r' own' => r' = .none ∧ ∃ v', PT v' own') := by
  w_on
  walk_at "mine intro"
  k_steps
  k_dflt (refine' Does.use S0 ?F ?X ?N ?T ?hD ?hU ?_; (case F => k_asm); (case X => k_asm); (case T => k_asm); (case N => k_asm); (case hD => walk_at "mine room"); (case hU => walk_at "mine room"))
  intro v' own' h' tk' F' N' P'
  obtain ⟨e1, kvs, lk, ch, ⟨n0, t1, t2, t3, t4, t5, t6, t7, o1, o3, rd, rk, tr, seg, rfl, hn, d1, d3, lo1, lo3, Sg, hnd⟩, hv, St⟩ := P'
  subst e1
  (try simp only [lfuOwn3, List.cons_append, List.nil_append] at N' St hnd)
  dsimp only
  k_sweep
  k_steps
  k_dflt (refine' Does.use St ?F ?X ?N ?T ?hD ?hU ?_; (case F => k_asm); (case X => k_asm); (case T => k_asm); (case N => k_asm); (case hD => walk_at "mine room"); (case hU => walk_at "mine room"))
  intro v' own' h' tk' F' N' P'
  dsimp only
  k_sweep
  k_steps
  all_goals assumption
set_option maxHeartbeats 4000000 in
theorem lfu_set_first {PQ : List (Int × Value) → List (Int × Value) → Lk → List Lk → Prop}
    (S0 : Does w 560 4690 735 [.ref a, .int k t, v] own0 (fun r' own' => r' = .none ∧ ∃ kvs lk n ch, LfuIs w a da dd ld r mx kvs lk (n :: ch) own' ∧ n.c = 1 ∧ (valueAt lk k).isSome = false ∧ lk.length ≤ 63 ∧ n.ks.length ≤ 63 ∧ k ∉ n.ks ∧ PQ kvs lk n ch)) :
    Does w 550 4680 947 [.ref a, .int k t, v] own0 (fun r' own' => Done (r' = .none ∧ ∃ kvs lk n ch, PQ kvs lk n ch ∧ LfuIs w a da dd ld r mx kvs (stored lk k (.ref n.l)) (⟨n.l, n.ld, n.kd, n.c, n.ks ++ [k]⟩ :: ch) own')) := by
  w_on
  walk_at "mine intro"
  k_steps
  k_dflt (refine' Does.use S0 ?F ?X ?N ?T ?hD ?hU ?_; (case F => k_asm); (case X => k_asm); (case T => k_asm); (case N => k_asm); (case hD => walk_at "mine room"); (case hU => walk_at "mine room"))
  intro v' own' h' tk' F' N' P'
  obtain ⟨e1, kvs, lk, ⟨x, xd, xk, cx, ks⟩, ch, ⟨n0, t1, t2, t3, t4, t5, t6, t7, o1, o3, rd, rk, tr, seg, rfl, hn, d1, d3, lo1, lo3, ⟨tx, ox, seg', rfl, dx, lox, Sg⟩, hnd⟩, hc, hv, hz1, hz2, hkn, hPQ⟩ := P'
  subst e1
  dsimp only at hc dx lox Sg hz2 hkn
  have hz3 : (okv ks).length ≤ 63 := by simpa [okv] using hz2
  subst hc
  (simp only [lfuOwn3, List.cons_append, List.nil_append] at N' hnd)
  have hnd' := hnd
  obtain ⟨hN9, hA9⟩ := nodup_pre (pre := [_, _, _, _, _, _, _, _, _]) hnd'
  have hrl := apart_ne hA9 (.tail _ (.tail _ (.tail _ (.head _))))
  have hrx := apart_ne hA9 (.tail _ (.tail _ (.tail _ (.tail _ (.tail _ (.tail _ (.tail _ (.tail _ (.head _)))))))))
  obtain ⟨⟨u0_1, u0_2, u0_3, u0_4, u0_5, u0_6, u0_7, u0_8, -⟩, ⟨u1_2, u1_3, u1_4, u1_5, u1_6, u1_7, u1_8, -⟩, ⟨u2_3, u2_4, u2_5, u2_6, u2_7, u2_8, -⟩, ⟨u3_4, u3_5, u3_6, u3_7, u3_8, -⟩, ⟨u4_5, u4_6, u4_7, u4_8, -⟩, ⟨u5_6, u5_7, u5_8, -⟩, ⟨u6_7, u6_8, -⟩, ⟨u7_8, -⟩, -, -⟩ := hN9
  dsimp only
  k_sweep
  k_steps
  refine ⟨rfl, kvs, lk, ⟨x, xd, xk, 1, ks⟩, ch, hPQ, LfuIs.mk (ch := ⟨x, xd, xk, 1, ks ++ [k]⟩ :: ch) (seg := (x, _) :: (xd, _) :: (xk, _) :: seg') hn (by assumption) (by assumption) lo1 lo3 ⟨_, _, _, rfl, by rw [← okv_stored hkn]; assumption, lox, Sg⟩ hnd⟩
end
end
section
section
variable {w : World} {a da dd ld r : Nat} {mx : Int} {k : Int} {t : Tok} {v : Value} {own0 : List (Addr × Obj)}
local macro_rules | `(tactic| tm_at "mine leave") => `(tactic| (k_dflt (refine' leaveS_ ?k1 (news_insM ?k2) ?_; (case k1 => k_asm); (case k2 => k_asm); k_whole)))
set_option maxHeartbeats 4000000 in
theorem lfu_set_mid {PQ : List (Int × Value) → List (Int × Value) → Lk → List Lk → Prop}
    (S0 : Does w 560 4690 735 [.ref a, .int k t, v] own0 (fun r' own' => r' = .none ∧ ∃ kvs lk n ch, LfuIs w a da dd ld r mx kvs lk (n :: ch) own' ∧ n.c ≠ 1 ∧ (valueAt lk k).isSome = false ∧ lk.length ≤ 63 ∧ PQ kvs lk n ch)) :
    Does w 550 4680 947 [.ref a, .int k t, v] own0 (fun r' own' => Done (r' = .none ∧ ∃ kvs lk n ch y yd yk, PQ kvs lk n ch ∧ LfuIs w a da dd ld r mx kvs (stored lk k (.ref y)) (⟨y, yd, yk, 1, [k]⟩ :: n :: ch) own')) := by
  w_on
  walk_at "mine intro"
  k_steps
  k_dflt (refine' Does.use S0 ?F ?X ?N ?T ?hD ?hU ?_; (case F => k_asm); (case X => k_asm); (case T => k_asm); (case N => k_asm); (case hD => walk_at "mine room"); (case hU => walk_at "mine room"))
  intro v' own' h' tk' F' N' P'
  obtain ⟨e1, kvs, lk, ⟨x, xd, xk, cx, ks⟩, ch, ⟨n0, t1, t2, t3, t4, t5, t6, t7, o1, o3, rd, rk, tr, seg, rfl, hn, d1, d3, lo1, lo3, ⟨tx, ox, seg', rfl, dx, lox, Sg⟩, hnd⟩, hc, hv, hz1, hPQ⟩ := P'
  subst e1
  dsimp only at hc dx lox Sg
  (simp only [lfuOwn3, List.cons_append, List.nil_append] at N' hnd)
  have hnd' := hnd
  obtain ⟨hN9, hA9⟩ := nodup_pre (pre := [_, _, _, _, _, _, _, _, _]) hnd'
  have hrl := apart_ne hA9 (.tail _ (.tail _ (.tail _ (.head _))))
  have hrr := apart_ne hA9 (.tail _ (.tail _ (.tail _ (.tail _ (.head _)))))
  have hrx := apart_ne hA9 (.tail _ (.tail _ (.tail _ (.tail _ (.tail _ (.tail _ (.head _)))))))
  obtain ⟨⟨u0_1, u0_2, u0_3, u0_4, u0_5, u0_6, u0_7, u0_8, -⟩, ⟨u1_2, u1_3, u1_4, u1_5, u1_6, u1_7, u1_8, -⟩, ⟨u2_3, u2_4, u2_5, u2_6, u2_7, u2_8, -⟩, ⟨u3_4, u3_5, u3_6, u3_7, u3_8, -⟩, ⟨u4_5, u4_6, u4_7, u4_8, -⟩, ⟨u5_6, u5_7, u5_8, -⟩, ⟨u6_7, u6_8, -⟩, ⟨u7_8, -⟩, -, -⟩ := hN9
  dsimp only
  k_sweep
  k_steps
  k_dflt (refine' Does.use0 link_make ?F ?X ?N ?T ?hD ?hU ?_; (case F => k_asm); (case X => k_asm); (case T => k_asm); (case N => k_asm); (case hD => walk_at "mine room"); (case hU => walk_at "mine room"))
  intro v' own' h' tk' F' N' apn P'
  obtain ⟨y, yd, yk, oy, e1, e2, dy, hyd, hyk, hykd, loy⟩ := P'
  subst e1
  subst e2
  (simp only [List.cons_append, List.nil_append] at N')
  dsimp only
  k_sweep
  obtain ⟨hy1, hy2, hy3⟩ := apart_three (apart_drop (apart_drop (apart_drop (apart_drop (apart_drop (apart_drop (apart_drop (apart_drop (apart_drop apn)))))))))
  k_steps
  refine ⟨rfl, kvs, lk, ⟨x, xd, xk, cx, ks⟩, ch, y, yd, yk, hPQ, LfuIs.mk (ch := ⟨y, yd, yk, 1, [k]⟩ :: ⟨x, xd, xk, cx, ks⟩ :: ch) (seg := (y, _) :: (yd, _) :: (yk, _) :: (x, _) :: (xd, _) :: (xk, _) :: seg') hn (by assumption) (by assumption) lo1 lo3 ⟨_, _, _, rfl, by assumption, loy, _, _, _, rfl, dx, lox, Sg⟩ (nodup_insM hnd (fun b hb => apn b hb) hyk hykd (Nat.ne_of_lt hyd))⟩
set_option maxHeartbeats 4000000 in
theorem lfu_set_empty {PQ : List (Int × Value) → List (Int × Value) → Prop}
    (S0 : Does w 560 4690 735 [.ref a, .int k t, v] own0 (fun r' own' => r' = .none ∧ ∃ kvs lk, LfuIs w a da dd ld r mx kvs lk [] own' ∧ (valueAt lk k).isSome = false ∧ lk.length ≤ 63 ∧ PQ kvs lk)) :
    Does w 550 4680 947 [.ref a, .int k t, v] own0 (fun r' own' => Done (r' = .none ∧ ∃ kvs lk y yd yk, PQ kvs lk ∧ LfuIs w a da dd ld r mx kvs (stored lk k (.ref y)) [⟨y, yd, yk, 1, [k]⟩] own')) := by
  w_on
  walk_at "mine intro"
  k_steps
  k_dflt (refine' Does.use S0 ?F ?X ?N ?T ?hD ?hU ?_; (case F => k_asm); (case X => k_asm); (case T => k_asm); (case N => k_asm); (case hD => walk_at "mine room"); (case hU => walk_at "mine room"))
  intro v' own' h' tk' F' N' P'
  obtain ⟨e1, kvs, lk, ⟨n0, t1, t2, t3, t4, t5, t6, t7, o1, o3, rd, rk, tr, seg, rfl, hn, d1, d3, lo1, lo3, Sg, hnd⟩, hv, hz1, hPQ⟩ := P'
  subst e1
  obtain rfl : seg = [] := Sg
  (simp only [lfuOwn3, List.cons_append, List.nil_append] at N' hnd)
  have hnd' := hnd
  obtain ⟨hN9, -⟩ := nodup_pre (pre := [_, _, _, _, _, _]) (rest := []) hnd'
  obtain ⟨⟨u0_1, u0_2, u0_3, u0_4, u0_5, -⟩, ⟨u1_2, u1_3, u1_4, u1_5, -⟩, ⟨u2_3, u2_4, u2_5, -⟩, ⟨u3_4, u3_5, -⟩, ⟨u4_5, -⟩, -, -⟩ := hN9
  dsimp only
  k_sweep
  k_steps
  k_dflt (refine' Does.use0 link_make ?F ?X ?N ?T ?hD ?hU ?_; (case F => k_asm); (case X => k_asm); (case T => k_asm); (case N => k_asm); (case hD => walk_at "mine room"); (case hU => walk_at "mine room"))
  intro v' own' h' tk' F' N' apn P'
  obtain ⟨y, yd, yk, oy, e1, e2, dy, hyd, hyk, hykd, loy⟩ := P'
  subst e1
  subst e2
  (simp only [List.cons_append, List.nil_append] at N')
  dsimp only
  k_sweep
  k_steps
  refine ⟨rfl, kvs, lk, y, yd, yk, hPQ, LfuIs.mk (ch := [⟨y, yd, yk, 1, [k]⟩]) (seg := [(y, _), (yd, _), (yk, _)]) hn (by assumption) (by assumption) lo1 lo3 ⟨_, _, _, rfl, by assumption, loy, rfl⟩ (nodup_insM hnd (fun b hb => apn b hb) hyk hykd (Nat.ne_of_lt hyd))⟩
end
end
section
theorem news_initL {h₀ h : Heap} {L : Addr} {p1 p2 p3 p4 p5 p6 p7 : Addr × Obj} (N : News h₀ L h [p1, p2, p3, p4, p5, p6, p7]) : News h₀ L h [p6, p7, p5, p1, p3, p4] := news_sub N (by simp only [List.mem_cons, List.not_mem_nil, or_false]; intro p hp; rcases hp with h | h | h | h | h | h <;> simp [h])
theorem nodup_initL {a da dd ld y yd : Nat} (h1 : da < a) (h2 : dd ≠ a) (h3 : dd ≠ da) (h4 : y < ld) (h5 : yd < ld) (h6 : dd < ld) (h7 : a < ld) (h8 : da < ld) (h9 : yd < y) (h10 : a ≠ y) (h11 : da ≠ y) (h12 : dd ≠ y) (h13 : a ≠ yd) (h14 : da ≠ yd) (h15 : dd ≠ yd) : [a, da, dd, ld, y, yd].Nodup := by
  simp only [List.nodup_cons, List.mem_cons, List.not_mem_nil, or_false, not_or, List.nodup_nil, and_true, not_false_eq_true]
  omega
section
variable {w : World} {a da : Nat} {mx : Int} {t : Tok}
local macro_rules | `(tactic| tm_at "mine call") => `(tactic| (k_here; (with_reducible show wpAny _ _ (call (Value.ref 714) _) _ _ _); k_dflt (refine' Does.use (lfu_init0 ?a ?c) ?F ?X ?N ?T ?hD ?hU ?_; (case F => k_asm); (case X => k_asm); (case T => k_asm); (case N => k_asm); (case a => assumption); (case c => assumption); (case hD => walk_at "mine room"); (case hU => walk_at "mine room"); k_whole); intro v' own' h' tk' F' N' P'; (obtain ⟨e1', dd', t1', t2', t3', t4', o1', e2', d1', q1', q2', q3'⟩ := P'; subst e1'; subst e2'); (try dsimp only); (try k_sweep)))
local macro_rules | `(tactic| tm_at "mine leave") => `(tactic| (k_dflt (refine' leaveS_ ?k1 (news_initL ?k2) ?_; (case k1 => k_asm); (case k2 => k_asm); k_whole)))
set_option maxHeartbeats 4000000 in
theorem lfu_init (hlt : da < a) (hmx : 1 ≤ mx) :
    Does w 591 4901 931 [.ref a, .int mx t] [(a, instObj 979 da), (da, dictOf [] 0)] (fun r own' => Done (r = .none ∧ ∃ dd ld r, LfuIs w a da dd ld r mx [] [] [] own')) := by
  w_on
  walk_at "mine intro"
  k_steps
  k_dflt (refine' Does.use0 link_make ?F ?X ?N ?T ?hD ?hU ?_; (case F => k_asm); (case X => k_asm); (case T => k_asm); (case N => k_asm); (case hD => walk_at "mine room"); (case hU => walk_at "mine room"))
  intro v' own' h' tk' F' N' apn P'
  obtain ⟨y, yd, yk, oy, e1, e2, dy, hyd, hyk, hykd, loy⟩ := P'
  subst e1
  subst e2
  (simp only [List.cons_append, List.nil_append] at N')
  dsimp only
  k_sweep
  obtain ⟨hy1, hy2, hy3⟩ := apart_three (apn)
  k_steps
  (with_reducible rename (_ < _) ∧ (_ < _) ∧ (_ < _) ∧ (_ < _) ∧ (_ < _) ∧ (_ < _) => l1')
  obtain ⟨q1, q2, q3, q4, q5, q6⟩ := l1'
  have a1 := hy2 _ (.head _)
  have a2 := hy2 _ (.tail _ (.head _))
  have a3 := hy2 _ (.tail _ (.tail _ (.head _)))
  have b1 := hy3 _ (.head _)
  have b2 := hy3 _ (.tail _ (.head _))
  have b3 := hy3 _ (.tail _ (.tail _ (.head _)))
  refine ⟨rfl, _, _, y, LfuIs.mk (ch := []) (seg := []) (by first | rfl | simp) (by assumption) (by assumption) (by assumption) (by assumption) rfl (nodup_initL hlt (by assumption) (by assumption) q2 q3 q4 q5 q6 hyd a2 a3 a1 b2 b3 b1)⟩
theorem lfu_make (hmx : 1 ≤ mx) : Does w 590 4900 979 [.int mx t] [] (fun r own' => ∃ (a dd da ld rr : Nat), r = .ref a ∧ LfuIs w a da dd ld rr mx [] [] [] own') :=
  Does.make (by k_is) (by k_is) (by k_is) fun x dx hlt _ => (lfu_init hlt hmx).ex fun v o p => ⟨p.p.1, let ⟨dd, ld, r, q⟩ := p.p.2; ⟨x, dd, dx, ld, r, rfl, q⟩⟩
end
end
section
section
variable {w : World} {D U : Nat} {f : Addr} {vals : List Value} {own ow rest : List (Addr × Obj)} {Post Post' : Value → List (Addr × Obj) → Prop}
theorem Does.frame (S : Does w D U f vals ow Post) (hp : ∀ p ∈ ow ++ rest, p ∈ own) (ap : Apart ow rest) : Does w D U f vals own (fun v own' => ∃ ow', own' = ow' ++ rest ∧ Post v ow' ∧ Apart ow' rest) := by
  intro h₀ L m mean mg mb s dp un gd fr R F X N T hD hU hQ
  have No : News h₀ L s.heap ow := news_sub N fun p h => hp p (List.mem_append_left _ h)
  have Nr : News h₀ L s.heap rest := news_sub N fun p h => hp p (List.mem_append_right _ h)
  have sub : ∀ b ∈ ow.map (·.1), b ∈ own.map (·.1) := fun b hb => let ⟨p, h, e⟩ := List.mem_map.mp hb; List.mem_map.mpr ⟨p, hp p (List.mem_append_left _ h), e⟩
  refine S h₀ L m mean mg mb s dp un gd fr R F X No T hD hU fun v ow' h' tk' F' N' Z p => ?_
  refine hQ v (ow' ++ rest) h' tk' F' (news_append N' (Z.rest Nr ap)) ⟨fun b o e n => Z.keep b o e fun q => n (sub b q), fun q hq => ?_, fun q hq => ?_⟩ ⟨ow', rfl, p, Z.apart Nr ap⟩
  · rcases List.mem_append.mp hq with hq | hq
    · exact Z.now q hq
    · exact (Z.rest Nr ap q hq).1
  · rcases List.mem_append.mp hq with hq | hq
    · exact (Z.new q hq).imp (sub _) id
    · exact .inl (List.mem_map.mpr ⟨q, hp q (List.mem_append_right _ hq), rfl⟩)
theorem Does.re (S : Does w D U f vals own Post) (h : ∀ v o, Post v o → ∃ o', (∀ p ∈ o', p ∈ o) ∧ Post' v o') : Does w D U f vals own Post' := by
  intro h₀ L m mean mg mb s dp un gd fr R F X N T hD hU hQ
  refine S h₀ L m mean mg mb s dp un gd fr R F X N T hD hU fun v o h' tk' F' N' Z p => ?_
  obtain ⟨o', hs, p'⟩ := h v o p
  exact hQ v o' h' tk' F' (news_sub N' hs) ⟨Z.keep, fun q hq => Z.now q (hs q hq), fun q hq => Z.new q (hs q hq)⟩ p'
end
theorem apart_of_perm {own ow rest : List (Addr × Obj)} (h : (own.map (·.1)).Nodup) (p : (own.map (·.1)).Perm ((ow ++ rest).map (·.1))) : Apart ow rest := apart_of_nodup ((List.Perm.nodup_iff p).mp h)
theorem nodup_of_perm {l l' : List Addr} (h : l.Nodup) (p : l'.Perm l) : l'.Nodup := (List.Perm.nodup_iff p).mpr h
theorem hdA_append (r : Nat) : ∀ (c1 c2 : List Lk), hdA r (c1 ++ c2) = hdA (hdA r c2) c1
  | [], _ => rfl
  | _ :: _, _ => rfl
theorem lsA_append : ∀ (p : Nat) (c1 c2 : List Lk), lsA p (c1 ++ c2) = lsA (lsA p c1) c2
  | _, [], _ => rfl
  | _, n :: c1, c2 => lsA_append n.l c1 c2
theorem hdA_nil (r : Nat) : hdA r [] = r := rfl
theorem hdA_cons (r : Nat) (n : Lk) (ch : List Lk) : hdA r (n :: ch) = n.l := rfl
theorem lsA_nil (r : Nat) : lsA r [] = r := rfl
theorem lsA_cons (r : Nat) (n : Lk) (ch : List Lk) : lsA r (n :: ch) = lsA n.l ch := rfl
theorem seg_split {w : World} {q : Nat} : ∀ {p : Nat} {c1 c2 : List Lk} {own : List (Addr × Obj)}, Seg w q p (c1 ++ c2) own → ∃ s1 s2, own = s1 ++ s2 ∧ Seg w (hdA q c2) p c1 s1 ∧ Seg w q (lsA p c1) c2 s2
  | _, [], _, own, h => ⟨[], own, rfl, rfl, h⟩
  | p, n :: c1, c2, own, ⟨t, o, own', e, d, lo, S⟩ => by
    obtain ⟨s1, s2, e', S1, S2⟩ := seg_split S
    subst e'
    subst e
    exact ⟨_, s2, rfl, ⟨t, o, s1, by rw [← hdA_append], d, lo, S1⟩, S2⟩
theorem seg_join {w : World} {q : Nat} : ∀ {p : Nat} {c1 c2 : List Lk} {s1 s2 : List (Addr × Obj)}, Seg w (hdA q c2) p c1 s1 → Seg w q (lsA p c1) c2 s2 → Seg w q p (c1 ++ c2) (s1 ++ s2)
  | _, [], _, s1, s2, h, S2 => by obtain rfl : s1 = [] := h; exact S2
  | p, n :: c1, c2, s1, s2, ⟨t, o, own', e, d, lo, S⟩, S2 => by
    subst e
    exact ⟨t, o, own' ++ s2, by rw [show c1.append c2 = c1 ++ c2 from rfl, hdA_append]; rfl, d, lo, seg_join S S2⟩
theorem okv_without {ks : List Int} {k : Int} : without (okv ks) k = okv (ks.filter (· ≠ k)) := by
  unfold without okv
  rw [List.filter_map]
  rfl
theorem okv_mem {ks : List Int} {k : Int} : (valueAt (okv ks) k).isSome = true ↔ k ∈ ks := by
  rw [valueAt_mem]; simp [okv]
theorem okv_len {ks : List Int} : (okv ks).length = ks.length := by simp [okv]
theorem okv_empty {ks : List Int} : (okv ks).isEmpty = ks.isEmpty := by cases ks <;> rfl
/-- the address list of an LFU cache, in one form -/
theorem perm_of_count {l l' : List Nat} (h : ∀ b, l.count b = l'.count b) : l.Perm l' := List.perm_iff_count.mpr h
local macro_rules | `(tactic| tm_at "mine count") => `(tactic| (intro b; simp only [lfuOwn3, lfuAt, List.map_append, List.map_cons, List.map_nil, List.count_append, List.count_cons, List.count_nil, List.cons_append, List.nil_append, List.append_assoc] <;> first | omega | ac_rfl))
local macro_rules | `(tactic| tm_at "mine sub") => `(tactic| (intro p hp; simp only [lfuOwn3, lfuAt, List.mem_append, List.mem_cons, List.not_mem_nil, or_false, List.cons_append, List.nil_append, List.append_assoc, List.append_nil] at hp ⊢; grind))
section touch
variable {w : World} {a da dd ld r : Nat} {mx : Int} {kvs lk : List (Int × Value)} {own : List (Addr × Obj)} {k : Int} {tk : Tok} {pre post : List Lk} {n x : Lk}
theorem g_touch_in_place (I : LfuIs w a da dd ld r mx kvs lk (pre ++ n :: post) own) (hv : valueAt lk k = some (.ref n.l)) (hk : n.ks.length = 1) (hc : ∀ x post', post = x :: post' → x.c ≠ n.c + 1) (hc0 : 0 ≠ n.c + 1) :
    Does w 580 4800 976 [.ref a, .int k tk] own (fun v own' => v = .none ∧ LfuIs w a da dd ld r mx kvs lk (pre ++ ⟨n.l, n.ld, n.kd, n.c + 1, n.ks⟩ :: post) own') := by
  obtain ⟨n0, t1, t2, t3, t4, t5, t6, t7, o1, o3, rd, rk, tr, seg, rfl, hn, d1, d3, lo1, lo3, Sg, hnd⟩ := I
  obtain ⟨s1, s2, rfl, S1, ⟨t, o, s3, rfl, d, lo, S3⟩⟩ := seg_split Sg
  cases post with
  | nil =>
    obtain rfl : s3 = [] := S3
    simp only [lsA_append, hdA_append, lsA_nil, lsA_cons, hdA_nil, hdA_cons] at hnd S1 ⊢
    have hP := nodup_of_perm hnd (l' := [n.l, n.ld, r, rd, a, da, ld, n.kd] ++ (dd :: s1.map (·.1))) (perm_of_count (by tm_at "mine count"))
    have S := touch_in_place (dd := dd) (r := r) (p := lsA r pre) (c := n.c) (t := t) (tx := tr) (xk := rk) (xn := hdA n.l pre) (m := n0) (mx := mx) (t1 := t1) (t2 := t2) (t3 := t3) (t4 := t4) (t5 := t5) (t6 := t6) (t7 := t7) (tk := tk) d3 d hv hc0 (okv_len.trans hk) lo (nas_of ((List.sublist_append_left _ _).nodup hP))
    refine (S.frame (rest := (dd, o1) :: s1) (by tm_at "mine sub") (apart_of_perm hnd (perm_of_count (by tm_at "mine count")))).re ?_
    rintro v _ ⟨_, rfl, ⟨rfl, t', rfl⟩, -⟩
    refine ⟨_, ?_, rfl, LfuIs.mk (rd := rd) (rk := rk) (tr := tr) (t1 := t1) (t2 := t2) (t3 := t3) (t4 := t4) (t5 := t5) (t6 := t6) (t7 := t7) (seg := s1 ++ (n.l, lnk n.ld (n.c + 1) t' n.kd r (lsA r pre)) :: (n.ld, dictOf [] 0) :: [(n.kd, o)]) hn d1 d3 lo1 lo3 (seg_join S1 ⟨t', o, [], rfl, d, lo, rfl⟩) ?_⟩
    · simp only [lsA_append, hdA_append, lsA_nil, lsA_cons, hdA_nil, hdA_cons]
      tm_at "mine sub"
    · exact nodup_of_perm hnd (perm_of_count (by tm_at "mine count"))
  | cons x post =>
    obtain ⟨tx, ox, s4, rfl, dx, lox, S4⟩ := S3
    simp only [lsA_append, hdA_append, lsA_nil, lsA_cons, hdA_nil, hdA_cons] at hnd S1 ⊢
    have hP := nodup_of_perm hnd (l' := [n.l, n.ld, x.l, x.ld, a, da, ld, n.kd] ++ (dd :: r :: rd :: x.kd :: (s1 ++ s4).map (·.1))) (perm_of_count (by tm_at "mine count"))
    have S := touch_in_place (dd := dd) (r := r) (p := lsA r pre) (c := n.c) (t := t) (tx := tx) (xk := x.kd) (xn := hdA r post) (m := n0) (mx := mx) (t1 := t1) (t2 := t2) (t3 := t3) (t4 := t4) (t5 := t5) (t6 := t6) (t7 := t7) (tk := tk) d3 d hv (hc x post rfl) (okv_len.trans hk) lo (nas_of ((List.sublist_append_left _ _).nodup hP))
    refine (S.frame (rest := (dd, o1) :: (r, lnk rd 0 tr rk (hdA n.l pre) (lsA x.l post)) :: (rd, dictOf [] 0) :: (x.kd, ox) :: (s1 ++ s4)) (by tm_at "mine sub") (apart_of_perm hnd (perm_of_count (by tm_at "mine count")))).re ?_
    rintro v _ ⟨_, rfl, ⟨rfl, t', rfl⟩, -⟩
    refine ⟨_, ?_, rfl, LfuIs.mk (rd := rd) (rk := rk) (tr := tr) (t1 := t1) (t2 := t2) (t3 := t3) (t4 := t4) (t5 := t5) (t6 := t6) (t7 := t7) (seg := s1 ++ (n.l, lnk n.ld (n.c + 1) t' n.kd x.l (lsA r pre)) :: (n.ld, dictOf [] 0) :: (n.kd, o) :: (x.l, lnk x.ld x.c tx x.kd (hdA r post) n.l) :: (x.ld, dictOf [] 0) :: (x.kd, ox) :: s4) hn d1 d3 lo1 lo3 (seg_join S1 ⟨t', o, _, rfl, d, lo, tx, ox, s4, rfl, dx, lox, S4⟩) ?_⟩
    · simp only [lsA_append, hdA_append, lsA_nil, lsA_cons, hdA_nil, hdA_cons]
      tm_at "mine sub"
    · exact nodup_of_perm hnd (perm_of_count (by tm_at "mine count"))
theorem g_touch_merge_stay (I : LfuIs w a da dd ld r mx kvs lk (pre ++ n :: x :: post) own) (hv : valueAt lk k = some (.ref n.l)) (hkn : k ∈ n.ks) (hkx : k ∉ x.ks) (hk : n.ks.filter (· ≠ k) ≠ []) (hc : x.c = n.c + 1) (hz1 : lk.length ≤ 64) (hz2 : n.ks.length ≤ 64) (hz3 : x.ks.length ≤ 63) :
    Does w 580 4800 976 [.ref a, .int k tk] own (fun v own' => v = .none ∧ LfuIs w a da dd ld r mx kvs (stored lk k (.ref x.l)) (pre ++ ⟨n.l, n.ld, n.kd, n.c, n.ks.filter (· ≠ k)⟩ :: ⟨x.l, x.ld, x.kd, x.c, x.ks ++ [k]⟩ :: post) own') := by
  obtain ⟨n0, t1, t2, t3, t4, t5, t6, t7, o1, o3, rd, rk, tr, seg, rfl, hn, d1, d3, lo1, lo3, Sg, hnd⟩ := I
  obtain ⟨s1, s2, rfl, S1, ⟨t, o, s3, rfl, d, lo, tx, ox, s4, rfl, dx, lox, S4⟩⟩ := seg_split Sg
  rw [hc] at hnd ⊢
  simp only [lsA_append, hdA_append, lsA_nil, lsA_cons, hdA_nil, hdA_cons] at hnd S1 ⊢
  have hP := nodup_of_perm hnd (l' := [n.l, n.ld, x.l, x.ld, a, da, ld, n.kd, x.kd] ++ (dd :: r :: rd :: (s1 ++ s4).map (·.1))) (perm_of_count (by tm_at "mine count"))
  have S := touch_merge_stay (dd := dd) (r := r) (p := lsA r pre) (c := n.c) (t := t) (tx := tx) (xn := hdA r post) (m := n0) (mx := mx) (t1 := t1) (t2 := t2) (t3 := t3) (t4 := t4) (t5 := t5) (t6 := t6) (t7 := t7) (tk := tk) d3 d dx hv (okv_mem.mpr hkn) (by rw [okv_without, okv_empty]; simpa using hk) lo hz1 (by rw [okv_len]; exact hz2) (by rw [okv_len]; exact hz3) (nas_of ((List.sublist_append_left _ _).nodup hP))
  refine (S.frame (rest := (dd, o1) :: (r, lnk rd 0 tr rk (hdA n.l pre) (lsA x.l post)) :: (rd, dictOf [] 0) :: (s1 ++ s4)) (by tm_at "mine sub") (apart_of_perm hnd (perm_of_count (by tm_at "mine count")))).re ?_
  rintro v _ ⟨_, rfl, ⟨rfl, o3', o', ox', rfl, e3, e, ex⟩, -⟩
  rw [okv_without] at e
  rw [okv_stored hkx] at ex
  refine ⟨_, ?_, rfl, LfuIs.mk (rd := rd) (rk := rk) (tr := tr) (t1 := t1) (t2 := t2) (t3 := t3) (t4 := t4) (t5 := t5) (t6 := t6) (t7 := t7) (seg := s1 ++ (n.l, lnk n.ld n.c t n.kd x.l (lsA r pre)) :: (n.ld, dictOf [] 0) :: (n.kd, o') :: (x.l, lnk x.ld (n.c + 1) tx x.kd (hdA r post) n.l) :: (x.ld, dictOf [] 0) :: (x.kd, ox') :: s4) hn d1 e3 lo1 lo3 (seg_join S1 ⟨t, o', _, rfl, e, lo, tx, ox', s4, rfl, ex, lox, S4⟩) ?_⟩
  · simp only [lsA_append, hdA_append, lsA_nil, lsA_cons, hdA_nil, hdA_cons]
    tm_at "mine sub"
  · exact nodup_of_perm hnd (perm_of_count (by tm_at "mine count"))
theorem g_touch_merge_go (I : LfuIs w a da dd ld r mx kvs lk (pre ++ n :: x :: post) own) (hv : valueAt lk k = some (.ref n.l)) (hkn : k ∈ n.ks) (hkx : k ∉ x.ks) (hk : n.ks.filter (· ≠ k) = []) (hc : x.c = n.c + 1) (hz1 : lk.length ≤ 64) (hz2 : n.ks.length ≤ 64) (hz3 : x.ks.length ≤ 63) :
    Does w 580 4800 976 [.ref a, .int k tk] own (fun v own' => v = .none ∧ LfuIs w a da dd ld r mx kvs (stored lk k (.ref x.l)) (pre ++ ⟨x.l, x.ld, x.kd, x.c, x.ks ++ [k]⟩ :: post) own') := by
  obtain ⟨n0, t1, t2, t3, t4, t5, t6, t7, o1, o3, rd, rk, tr, seg, rfl, hn, d1, d3, lo1, lo3, Sg, hnd⟩ := I
  obtain ⟨s1, s2, rfl, S1, ⟨t, o, s3, rfl, d, lo, tx, ox, s4, rfl, dx, lox, S4⟩⟩ := seg_split Sg
  rw [hc] at hnd ⊢
  rcases List.eq_nil_or_concat pre with rfl | ⟨pre', P, rfl⟩
  · obtain rfl : s1 = [] := S1
    simp only [List.nil_append, lsA_append, hdA_append, lsA_nil, lsA_cons, hdA_nil, hdA_cons] at hnd ⊢
    have hP := nodup_of_perm hnd (l' := [n.l, n.ld, r, rd, x.l, x.ld, a, da, ld, n.kd, x.kd] ++ (dd :: s4.map (·.1))) (perm_of_count (by tm_at "mine count"))
    have S := touch_merge_go (dd := dd) (r := r) (p := r) (pd := rd) (pk := rk) (cp := 0) (tp := tr) (p0 := lsA x.l post) (c := n.c) (t := t) (tx := tx) (xn := hdA r post) (m := n0) (mx := mx) (t1 := t1) (t2 := t2) (t3 := t3) (t4 := t4) (t5 := t5) (t6 := t6) (t7 := t7) (tk := tk) d3 d dx hv (okv_mem.mpr hkn) (by rw [okv_without, okv_empty, hk]; rfl) lo hz1 (by rw [okv_len]; exact hz2) (by rw [okv_len]; exact hz3) (nas_of ((List.sublist_append_left _ _).nodup hP))
    refine (S.frame (rest := (dd, o1) :: s4) (by tm_at "mine sub") (apart_of_perm hnd (perm_of_count (by tm_at "mine count")))).re ?_
    rintro v _ ⟨_, rfl, ⟨rfl, o3', o', ox', rfl, e3, e, ex⟩, -⟩
    rw [okv_stored hkx] at ex
    refine ⟨_, ?_, rfl, LfuIs.mk (rd := rd) (rk := rk) (tr := tr) (t1 := t1) (t2 := t2) (t3 := t3) (t4 := t4) (t5 := t5) (t6 := t6) (t7 := t7) (ch := ⟨x.l, x.ld, x.kd, n.c + 1, x.ks ++ [k]⟩ :: post) (seg := (x.l, lnk x.ld (n.c + 1) tx x.kd (hdA r post) r) :: (x.ld, dictOf [] 0) :: (x.kd, ox') :: s4) hn d1 e3 lo1 lo3 ⟨tx, ox', s4, rfl, ex, lox, S4⟩ ?_⟩
    · simp only [lsA_append, hdA_append, lsA_nil, lsA_cons, hdA_nil, hdA_cons]
      tm_at "mine sub"
    · exact (List.sublist_append_left _ [n.l, n.ld, n.kd]).nodup (nodup_of_perm hnd (perm_of_count (by tm_at "mine count")))
  · simp only [List.concat_eq_append] at Sg S1 hnd ⊢
    obtain ⟨s5, s6, rfl, S5, ⟨tp, op, s7, rfl, dp, lop, rfl⟩⟩ := seg_split S1
    simp only [List.append_assoc, List.cons_append, List.nil_append, lsA_append, hdA_append, lsA_nil, lsA_cons, hdA_nil, hdA_cons] at hnd S5 ⊢
    have hP := nodup_of_perm hnd (l' := [n.l, n.ld, P.l, P.ld, x.l, x.ld, a, da, ld, n.kd, x.kd] ++ (dd :: r :: rd :: P.kd :: (s5 ++ s4).map (·.1))) (perm_of_count (by tm_at "mine count"))
    have S := touch_merge_go (dd := dd) (r := r) (p := P.l) (pd := P.ld) (pk := P.kd) (cp := P.c) (tp := tp) (p0 := lsA r pre') (c := n.c) (t := t) (tx := tx) (xn := hdA r post) (m := n0) (mx := mx) (t1 := t1) (t2 := t2) (t3 := t3) (t4 := t4) (t5 := t5) (t6 := t6) (t7 := t7) (tk := tk) d3 d dx hv (okv_mem.mpr hkn) (by rw [okv_without, okv_empty, hk]; rfl) lo hz1 (by rw [okv_len]; exact hz2) (by rw [okv_len]; exact hz3) (nas_of ((List.sublist_append_left _ _).nodup hP))
    refine (S.frame (rest := (dd, o1) :: (r, lnk rd 0 tr rk (hdA P.l pre') (lsA x.l post)) :: (rd, dictOf [] 0) :: (P.kd, op) :: (s5 ++ s4)) (by tm_at "mine sub") (apart_of_perm hnd (perm_of_count (by tm_at "mine count")))).re ?_
    rintro v _ ⟨_, rfl, ⟨rfl, o3', o', ox', rfl, e3, e, ex⟩, -⟩
    rw [okv_stored hkx] at ex
    refine ⟨_, ?_, rfl, LfuIs.mk (rd := rd) (rk := rk) (tr := tr) (t1 := t1) (t2 := t2) (t3 := t3) (t4 := t4) (t5 := t5) (t6 := t6) (t7 := t7) (ch := pre' ++ P :: ⟨x.l, x.ld, x.kd, n.c + 1, x.ks ++ [k]⟩ :: post) (seg := s5 ++ (P.l, lnk P.ld P.c tp P.kd x.l (lsA r pre')) :: (P.ld, dictOf [] 0) :: (P.kd, op) :: (x.l, lnk x.ld (n.c + 1) tx x.kd (hdA r post) P.l) :: (x.ld, dictOf [] 0) :: (x.kd, ox') :: s4) hn d1 e3 lo1 lo3 (seg_join S5 ⟨tp, op, _, rfl, dp, lop, tx, ox', s4, rfl, ex, lox, S4⟩) ?_⟩
    · simp only [lsA_append, hdA_append, lsA_nil, lsA_cons, hdA_nil, hdA_cons]
      tm_at "mine sub"
    · exact (List.sublist_append_left _ [n.l, n.ld, n.kd]).nodup (nodup_of_perm hnd (perm_of_count (by tm_at "mine count")))
theorem nodup_fresh3 {l l' : List Nat} {y yd yk : Nat} (h : l.Nodup) (hf : ∀ b ∈ l, b ∉ [yk, y, yd]) (h1 : yk ≠ y) (h2 : yk ≠ yd) (h3 : yd ≠ y) (p : l'.Perm ([yk, y, yd] ++ l)) : l'.Nodup := by
  refine nodup_of_perm (List.nodup_append.mpr ⟨by simp [h1, h2, h3.symm], h, fun b hb c hc e => hf c hc (e ▸ hb)⟩) p
theorem g_touch_split (I : LfuIs w a da dd ld r mx kvs lk (pre ++ n :: post) own) (hv : valueAt lk k = some (.ref n.l)) (hkn : k ∈ n.ks) (hk1 : n.ks.length ≠ 1) (hk : n.ks.filter (· ≠ k) ≠ []) (hc : ∀ x post', post = x :: post' → x.c ≠ n.c + 1) (hc0 : 0 ≠ n.c + 1) (hz1 : lk.length ≤ 64) (hz2 : n.ks.length ≤ 64) :
    Does w 580 4800 976 [.ref a, .int k tk] own (fun v own' => v = .none ∧ ∃ y yd yk, LfuIs w a da dd ld r mx kvs (stored lk k (.ref y)) (pre ++ ⟨n.l, n.ld, n.kd, n.c, n.ks.filter (· ≠ k)⟩ :: ⟨y, yd, yk, n.c + 1, [k]⟩ :: post) own') := by
  obtain ⟨n0, t1, t2, t3, t4, t5, t6, t7, o1, o3, rd, rk, tr, seg, rfl, hn, d1, d3, lo1, lo3, Sg, hnd⟩ := I
  obtain ⟨s1, s2, rfl, S1, ⟨t, o, s3, rfl, d, lo, S3⟩⟩ := seg_split Sg
  cases post with
  | nil =>
    obtain rfl : s3 = [] := S3
    simp only [lsA_append, hdA_append, lsA_nil, lsA_cons, hdA_nil, hdA_cons] at hnd S1 ⊢
    have hP := nodup_of_perm hnd (l' := [n.l, n.ld, r, rd, a, da, ld, n.kd] ++ (dd :: s1.map (·.1))) (perm_of_count (by tm_at "mine count"))
    have S := touch_split (dd := dd) (r := r) (p := lsA r pre) (c := n.c) (t := t) (tx := tr) (xk := rk) (xn := hdA n.l pre) (m := n0) (mx := mx) (t1 := t1) (t2 := t2) (t3 := t3) (t4 := t4) (t5 := t5) (t6 := t6) (t7 := t7) (tk := tk) d3 d hv (okv_mem.mpr hkn) (by rw [okv_without, okv_empty]; simpa using hk) (by rw [okv_len]; exact hk1) hc0 lo hz1 (by rw [okv_len]; exact hz2) (nas_of ((List.sublist_append_left _ _).nodup hP))
    refine (S.frame (rest := (dd, o1) :: s1) (by tm_at "mine sub") (apart_of_perm hnd (perm_of_count (by tm_at "mine count")))).re ?_
    rintro v _ ⟨_, rfl, ⟨rfl, y, yd, yk, ty, oy, o3', o', rfl, dy, e3, e, loy, q1, q2, q3, qf⟩, apy⟩
    rw [okv_without] at e
    refine ⟨_, ?_, rfl, y, yd, yk, LfuIs.mk (rd := rd) (rk := rk) (tr := tr) (t1 := t1) (t2 := t2) (t3 := t3) (t4 := t4) (t5 := t5) (t6 := t6) (t7 := t7) (seg := s1 ++ (n.l, lnk n.ld n.c t n.kd y (lsA r pre)) :: (n.ld, dictOf [] 0) :: (n.kd, o') :: (y, lnk yd (n.c + 1) ty yk r n.l) :: (yd, dictOf [] 0) :: [(yk, oy)]) hn d1 e3 lo1 lo3 (seg_join S1 ⟨t, o', _, rfl, e, lo, ty, oy, [], rfl, dy, loy, rfl⟩) ?_⟩
    · simp only [lsA_append, hdA_append, lsA_nil, lsA_cons, hdA_nil, hdA_cons]
      tm_at "mine sub"
    · refine nodup_fresh3 hP (fun b hb => ?_) q1 q2 q3 (perm_of_count (by tm_at "mine count"))
      rcases List.mem_append.mp hb with hb | hb
      · exact qf b hb
      · exact fun z => apy b hb (by simp only [List.map_append, List.map_cons]; exact List.mem_append_left _ z)
  | cons x post =>
    obtain ⟨tx, ox, s4, rfl, dx, lox, S4⟩ := S3
    simp only [lsA_append, hdA_append, lsA_nil, lsA_cons, hdA_nil, hdA_cons] at hnd S1 ⊢
    have hP := nodup_of_perm hnd (l' := [n.l, n.ld, x.l, x.ld, a, da, ld, n.kd] ++ (dd :: r :: rd :: x.kd :: (s1 ++ s4).map (·.1))) (perm_of_count (by tm_at "mine count"))
    have S := touch_split (dd := dd) (r := r) (p := lsA r pre) (c := n.c) (t := t) (tx := tx) (xk := x.kd) (xn := hdA r post) (m := n0) (mx := mx) (t1 := t1) (t2 := t2) (t3 := t3) (t4 := t4) (t5 := t5) (t6 := t6) (t7 := t7) (tk := tk) d3 d hv (okv_mem.mpr hkn) (by rw [okv_without, okv_empty]; simpa using hk) (by rw [okv_len]; exact hk1) (hc x post rfl) lo hz1 (by rw [okv_len]; exact hz2) (nas_of ((List.sublist_append_left _ _).nodup hP))
    refine (S.frame (rest := (dd, o1) :: (r, lnk rd 0 tr rk (hdA n.l pre) (lsA x.l post)) :: (rd, dictOf [] 0) :: (x.kd, ox) :: (s1 ++ s4)) (by tm_at "mine sub") (apart_of_perm hnd (perm_of_count (by tm_at "mine count")))).re ?_
    rintro v _ ⟨_, rfl, ⟨rfl, y, yd, yk, ty, oy, o3', o', rfl, dy, e3, e, loy, q1, q2, q3, qf⟩, apy⟩
    rw [okv_without] at e
    refine ⟨_, ?_, rfl, y, yd, yk, LfuIs.mk (rd := rd) (rk := rk) (tr := tr) (t1 := t1) (t2 := t2) (t3 := t3) (t4 := t4) (t5 := t5) (t6 := t6) (t7 := t7) (seg := s1 ++ (n.l, lnk n.ld n.c t n.kd y (lsA r pre)) :: (n.ld, dictOf [] 0) :: (n.kd, o') :: (y, lnk yd (n.c + 1) ty yk x.l n.l) :: (yd, dictOf [] 0) :: (yk, oy) :: (x.l, lnk x.ld x.c tx x.kd (hdA r post) y) :: (x.ld, dictOf [] 0) :: (x.kd, ox) :: s4) hn d1 e3 lo1 lo3 (seg_join S1 ⟨t, o', _, rfl, e, lo, ty, oy, _, rfl, dy, loy, tx, ox, s4, rfl, dx, lox, S4⟩) ?_⟩
    · simp only [lsA_append, hdA_append, lsA_nil, lsA_cons, hdA_nil, hdA_cons]
      tm_at "mine sub"
    · refine nodup_fresh3 hP (fun b hb => ?_) q1 q2 q3 (perm_of_count (by tm_at "mine count"))
      rcases List.mem_append.mp hb with hb | hb
      · exact qf b hb
      · exact fun z => apy b hb (by simp only [List.map_append, List.map_cons]; exact List.mem_append_left _ z)
theorem g_del_stay (I : LfuIs w a da dd ld r mx kvs lk (pre ++ n :: post) own) (hvd : (valueAt kvs k).isSome = true) (hv : valueAt lk k = some (.ref n.l)) (hkn : k ∈ n.ks) (hz : kvs.length ≤ 64) (hz1 : lk.length ≤ 64) (hz2 : n.ks.length ≤ 64) (hk : n.ks.filter (· ≠ k) ≠ []) :
    Does w 590 4900 955 [.ref a, .int k tk] own (fun v own' => v = .none ∧ LfuIs w a da dd ld r mx (without kvs k) (without lk k) (pre ++ ⟨n.l, n.ld, n.kd, n.c, n.ks.filter (· ≠ k)⟩ :: post) own') := by
  obtain ⟨n0, t1, t2, t3, t4, t5, t6, t7, o1, o3, rd, rk, tr, seg, rfl, hn, d1, d3, lo1, lo3, Sg, hnd⟩ := I
  obtain ⟨s1, s2, rfl, S1, ⟨t, o, s3, rfl, d, lo, S3⟩⟩ := seg_split Sg
  simp only [lsA_append, hdA_append, lsA_nil, lsA_cons, hdA_nil, hdA_cons] at hnd S1 ⊢
  have hP := nodup_of_perm hnd (l' := [a, da, dd, n.l, n.ld, ld, n.kd] ++ (r :: rd :: (s1 ++ s3).map (·.1))) (perm_of_count (by tm_at "mine count"))
  have hB : Nas [a, da, dd] := nas_of ((show [a, da, dd].Sublist ([a, da, dd, n.l, n.ld, ld, n.kd] ++ (r :: rd :: (s1 ++ s3).map (·.1))) from (List.Sublist.refl [a, da, dd]).trans (List.sublist_append_left _ _)).nodup hP)
  have S := lfu_del_stay (r := r) (mx := mx) (p := lsA r pre) (x := hdA r post) (c := n.c) (t := t) (tk := tk) (LfuB.mk (t1 := t1) (t2 := t2) (t3 := t3) (t4 := t4) (t5 := t5) (t6 := t6) (t7 := t7) hn d1 lo1 hB) d3 d hvd hv (okv_mem.mpr hkn) (by rw [okv_without, okv_empty]; simpa using hk) lo hz hz1 (by rw [okv_len]; exact hz2) (nas_of ((List.sublist_append_left _ _).nodup hP))
  refine (S.frame (rest := (r, lnk rd 0 tr rk (hdA n.l pre) (lsA n.l post)) :: (rd, dictOf [] 0) :: (s1 ++ s3)) (by tm_at "mine sub") (apart_of_perm hnd (perm_of_count (by tm_at "mine count")))).re ?_
  rintro v _ ⟨_, rfl, ⟨rfl, o3', o', _, rfl, ⟨n0', t1', t2', t3', t4', t5', t6', t7', o1', rfl, hn', d1', -, -⟩, e3, e⟩, -⟩
  rw [okv_without] at e
  refine ⟨_, ?_, rfl, LfuIs.mk (rd := rd) (rk := rk) (tr := tr) (t1 := t1') (t2 := t2') (t3 := t3') (t4 := t4') (t5 := t5') (t6 := t6') (t7 := t7') (ch := pre ++ ⟨n.l, n.ld, n.kd, n.c, n.ks.filter (· ≠ k)⟩ :: post) (seg := s1 ++ (n.l, lnk n.ld n.c t n.kd (hdA r post) (lsA r pre)) :: (n.ld, dictOf [] 0) :: (n.kd, o') :: s3) hn' d1' e3 lo1 lo3 (seg_join S1 ⟨t, o', s3, rfl, e, lo, S3⟩) ?_⟩
  · simp only [lsA_append, hdA_append, lsA_nil, lsA_cons, hdA_nil, hdA_cons]
    tm_at "mine sub"
  · exact nodup_of_perm hnd (perm_of_count (by tm_at "mine count"))
theorem g_del_go (I : LfuIs w a da dd ld r mx kvs lk (pre ++ n :: post) own) (hvd : (valueAt kvs k).isSome = true) (hv : valueAt lk k = some (.ref n.l)) (hkn : k ∈ n.ks) (hz : kvs.length ≤ 64) (hz1 : lk.length ≤ 64) (hz2 : n.ks.length ≤ 64) (hk : n.ks.filter (· ≠ k) = []) :
    Does w 590 4900 955 [.ref a, .int k tk] own (fun v own' => v = .none ∧ LfuIs w a da dd ld r mx (without kvs k) (without lk k) (pre ++ post) own') := by
  obtain ⟨n0, t1, t2, t3, t4, t5, t6, t7, o1, o3, rd, rk, tr, seg, rfl, hn, d1, d3, lo1, lo3, Sg, hnd⟩ := I
  obtain ⟨s1, s2, rfl, S1, ⟨t, o, s3, rfl, d, lo, S3⟩⟩ := seg_split Sg
  rcases List.eq_nil_or_concat pre with rfl | ⟨pre', P, rfl⟩
  · obtain rfl : s1 = [] := S1
    cases post with
    | nil =>
      obtain rfl : s3 = [] := S3
      simp only [List.nil_append, lsA_append, hdA_append, lsA_nil, lsA_cons, hdA_nil, hdA_cons] at hnd ⊢
      have hP := nodup_of_perm hnd (l' := [a, da, dd, n.l, n.ld, r, rd, ld, n.kd] ++ ([])) (perm_of_count (by tm_at "mine count"))
      have hB : Nas [a, da, dd] := nas_of ((show [a, da, dd].Sublist ([a, da, dd, n.l, n.ld, r, rd, ld, n.kd] ++ ([])) from (List.Sublist.refl [a, da, dd]).trans (List.sublist_append_left _ _)).nodup hP)
      have S := lfu_del_one (r := r) (mx := mx) (p := r) (pd := rd) (pk := rk) (cp := 0) (tp := tr) (c := n.c) (t := t) (tk := tk) (LfuB.mk (t1 := t1) (t2 := t2) (t3 := t3) (t4 := t4) (t5 := t5) (t6 := t6) (t7 := t7) hn d1 lo1 hB) d3 d hvd hv (okv_mem.mpr hkn) (by rw [okv_without, okv_empty, hk]; rfl) lo hz hz1 (by rw [okv_len]; exact hz2) (nas_of ((List.sublist_append_left _ _).nodup hP))
      refine (S.frame (rest := []) (by tm_at "mine sub") (apart_of_perm hnd (perm_of_count (by tm_at "mine count")))).re ?_
      rintro v _ ⟨_, rfl, ⟨rfl, o3', o', _, rfl, ⟨n0', t1', t2', t3', t4', t5', t6', t7', o1', rfl, hn', d1', -, -⟩, e3, e⟩, -⟩
      refine ⟨_, ?_, rfl, LfuIs.mk (rd := rd) (rk := rk) (tr := tr) (t1 := t1') (t2 := t2') (t3 := t3') (t4 := t4') (t5 := t5') (t6 := t6') (t7 := t7') (ch := []) (seg := []) hn' d1' e3 lo1 lo3 (rfl) ?_⟩
      · simp only [lsA_append, hdA_append, lsA_nil, lsA_cons, hdA_nil, hdA_cons]
        tm_at "mine sub"
      · exact (List.sublist_append_left _ [n.l, n.ld, n.kd]).nodup (nodup_of_perm hnd (perm_of_count (by tm_at "mine count")))
    | cons x post =>
      obtain ⟨tx, ox, s4, rfl, dx, lox, S4⟩ := S3
      simp only [List.nil_append, lsA_append, hdA_append, lsA_nil, lsA_cons, hdA_nil, hdA_cons] at hnd ⊢
      have hP := nodup_of_perm hnd (l' := [a, da, dd, n.l, n.ld, r, rd, x.l, x.ld, ld, n.kd] ++ (x.kd :: s4.map (·.1))) (perm_of_count (by tm_at "mine count"))
      have hB : Nas [a, da, dd] := nas_of ((show [a, da, dd].Sublist ([a, da, dd, n.l, n.ld, r, rd, x.l, x.ld, ld, n.kd] ++ (x.kd :: s4.map (·.1))) from (List.Sublist.refl [a, da, dd]).trans (List.sublist_append_left _ _)).nodup hP)
      have S := lfu_del_two (r := r) (mx := mx) (p := r) (pd := rd) (pk := rk) (cp := 0) (tp := tr) (p0 := lsA x.l post) (c := n.c) (t := t) (x := x.l) (xd := x.ld) (xk := x.kd) (cx := x.c) (tx := tx) (x0 := hdA r post) (tk := tk) (LfuB.mk (t1 := t1) (t2 := t2) (t3 := t3) (t4 := t4) (t5 := t5) (t6 := t6) (t7 := t7) hn d1 lo1 hB) d3 d hvd hv (okv_mem.mpr hkn) (by rw [okv_without, okv_empty, hk]; rfl) lo hz hz1 (by rw [okv_len]; exact hz2) (nas_of ((List.sublist_append_left _ _).nodup hP))
      refine (S.frame (rest := (x.kd, ox) :: s4) (by tm_at "mine sub") (apart_of_perm hnd (perm_of_count (by tm_at "mine count")))).re ?_
      rintro v _ ⟨_, rfl, ⟨rfl, o3', o', _, rfl, ⟨n0', t1', t2', t3', t4', t5', t6', t7', o1', rfl, hn', d1', -, -⟩, e3, e⟩, -⟩
      refine ⟨_, ?_, rfl, LfuIs.mk (rd := rd) (rk := rk) (tr := tr) (t1 := t1') (t2 := t2') (t3 := t3') (t4 := t4') (t5 := t5') (t6 := t6') (t7 := t7') (ch := x :: post) (seg := (x.l, lnk x.ld x.c tx x.kd (hdA r post) r) :: (x.ld, dictOf [] 0) :: (x.kd, ox) :: s4) hn' d1' e3 lo1 lo3 (⟨tx, ox, s4, rfl, dx, lox, S4⟩) ?_⟩
      · simp only [lsA_append, hdA_append, lsA_nil, lsA_cons, hdA_nil, hdA_cons]
        tm_at "mine sub"
      · exact (List.sublist_append_left _ [n.l, n.ld, n.kd]).nodup (nodup_of_perm hnd (perm_of_count (by tm_at "mine count")))
  · simp only [List.concat_eq_append] at Sg S1 hnd ⊢
    obtain ⟨s5, s6, rfl, S5, ⟨tp, op, s7, rfl, dp, lop, rfl⟩⟩ := seg_split S1
    cases post with
    | nil =>
      obtain rfl : s3 = [] := S3
      simp only [List.append_assoc, List.cons_append, List.nil_append, lsA_append, hdA_append, lsA_nil, lsA_cons, hdA_nil, hdA_cons] at hnd S5 ⊢
      have hP := nodup_of_perm hnd (l' := [a, da, dd, n.l, n.ld, P.l, P.ld, r, rd, ld, n.kd] ++ (P.kd :: s5.map (·.1))) (perm_of_count (by tm_at "mine count"))
      have hB : Nas [a, da, dd] := nas_of ((show [a, da, dd].Sublist ([a, da, dd, n.l, n.ld, P.l, P.ld, r, rd, ld, n.kd] ++ (P.kd :: s5.map (·.1))) from (List.Sublist.refl [a, da, dd]).trans (List.sublist_append_left _ _)).nodup hP)
      have S := lfu_del_two (r := r) (mx := mx) (p := P.l) (pd := P.ld) (pk := P.kd) (cp := P.c) (tp := tp) (p0 := lsA r pre') (c := n.c) (t := t) (x := r) (xd := rd) (xk := rk) (cx := 0) (tx := tr) (x0 := hdA P.l pre') (tk := tk) (LfuB.mk (t1 := t1) (t2 := t2) (t3 := t3) (t4 := t4) (t5 := t5) (t6 := t6) (t7 := t7) hn d1 lo1 hB) d3 d hvd hv (okv_mem.mpr hkn) (by rw [okv_without, okv_empty, hk]; rfl) lo hz hz1 (by rw [okv_len]; exact hz2) (nas_of ((List.sublist_append_left _ _).nodup hP))
      refine (S.frame (rest := (P.kd, op) :: s5) (by tm_at "mine sub") (apart_of_perm hnd (perm_of_count (by tm_at "mine count")))).re ?_
      rintro v _ ⟨_, rfl, ⟨rfl, o3', o', _, rfl, ⟨n0', t1', t2', t3', t4', t5', t6', t7', o1', rfl, hn', d1', -, -⟩, e3, e⟩, -⟩
      refine ⟨_, ?_, rfl, LfuIs.mk (rd := rd) (rk := rk) (tr := tr) (t1 := t1') (t2 := t2') (t3 := t3') (t4 := t4') (t5 := t5') (t6 := t6') (t7 := t7') (ch := pre' ++ [P]) (seg := s5 ++ (P.l, lnk P.ld P.c tp P.kd r (lsA r pre')) :: (P.ld, dictOf [] 0) :: [(P.kd, op)]) hn' d1' e3 lo1 lo3 (seg_join S5 ⟨tp, op, [], rfl, dp, lop, rfl⟩) ?_⟩
      · simp only [lsA_append, hdA_append, lsA_nil, lsA_cons, hdA_nil, hdA_cons]
        tm_at "mine sub"
      · exact (List.sublist_append_left _ [n.l, n.ld, n.kd]).nodup (nodup_of_perm hnd (perm_of_count (by tm_at "mine count")))
    | cons x post =>
      obtain ⟨tx, ox, s4, rfl, dx, lox, S4⟩ := S3
      simp only [List.append_assoc, List.cons_append, List.nil_append, lsA_append, hdA_append, lsA_nil, lsA_cons, hdA_nil, hdA_cons] at hnd S5 ⊢
      have hP := nodup_of_perm hnd (l' := [a, da, dd, n.l, n.ld, P.l, P.ld, x.l, x.ld, ld, n.kd] ++ (r :: rd :: P.kd :: x.kd :: (s5 ++ s4).map (·.1))) (perm_of_count (by tm_at "mine count"))
      have hB : Nas [a, da, dd] := nas_of ((show [a, da, dd].Sublist ([a, da, dd, n.l, n.ld, P.l, P.ld, x.l, x.ld, ld, n.kd] ++ (r :: rd :: P.kd :: x.kd :: (s5 ++ s4).map (·.1))) from (List.Sublist.refl [a, da, dd]).trans (List.sublist_append_left _ _)).nodup hP)
      have S := lfu_del_two (r := r) (mx := mx) (p := P.l) (pd := P.ld) (pk := P.kd) (cp := P.c) (tp := tp) (p0 := lsA r pre') (c := n.c) (t := t) (x := x.l) (xd := x.ld) (xk := x.kd) (cx := x.c) (tx := tx) (x0 := hdA r post) (tk := tk) (LfuB.mk (t1 := t1) (t2 := t2) (t3 := t3) (t4 := t4) (t5 := t5) (t6 := t6) (t7 := t7) hn d1 lo1 hB) d3 d hvd hv (okv_mem.mpr hkn) (by rw [okv_without, okv_empty, hk]; rfl) lo hz hz1 (by rw [okv_len]; exact hz2) (nas_of ((List.sublist_append_left _ _).nodup hP))
      refine (S.frame (rest := (r, lnk rd 0 tr rk (hdA P.l pre') (lsA x.l post)) :: (rd, dictOf [] 0) :: (P.kd, op) :: (x.kd, ox) :: (s5 ++ s4)) (by tm_at "mine sub") (apart_of_perm hnd (perm_of_count (by tm_at "mine count")))).re ?_
      rintro v _ ⟨_, rfl, ⟨rfl, o3', o', _, rfl, ⟨n0', t1', t2', t3', t4', t5', t6', t7', o1', rfl, hn', d1', -, -⟩, e3, e⟩, -⟩
      refine ⟨_, ?_, rfl, LfuIs.mk (rd := rd) (rk := rk) (tr := tr) (t1 := t1') (t2 := t2') (t3 := t3') (t4 := t4') (t5 := t5') (t6 := t6') (t7 := t7') (ch := pre' ++ P :: x :: post) (seg := s5 ++ (P.l, lnk P.ld P.c tp P.kd x.l (lsA r pre')) :: (P.ld, dictOf [] 0) :: (P.kd, op) :: (x.l, lnk x.ld x.c tx x.kd (hdA r post) P.l) :: (x.ld, dictOf [] 0) :: (x.kd, ox) :: s4) hn' d1' e3 lo1 lo3 (seg_join S5 ⟨tp, op, _, rfl, dp, lop, tx, ox, s4, rfl, dx, lox, S4⟩) ?_⟩
      · simp only [lsA_append, hdA_append, lsA_nil, lsA_cons, hdA_nil, hdA_cons]
        tm_at "mine sub"
      · exact (List.sublist_append_left _ [n.l, n.ld, n.kd]).nodup (nodup_of_perm hnd (perm_of_count (by tm_at "mine count")))
end touch
end
section
abbrev Sh := List (Int × List Int)
def keysOf (sh : Sh) : List Int := sh.flatMap (·.2)
def shape (ch : List Lk) : Sh := ch.map fun n => (n.c, n.ks)
def tchAt (k c : Int) (ks : List Int) : Sh → Sh
  | (c', ks') :: rest' => if c' = c + 1 then (if ks.filter (· ≠ k) = [] then (c', ks' ++ [k]) :: rest' else (c, ks.filter (· ≠ k)) :: (c', ks' ++ [k]) :: rest')
          else (if ks.filter (· ≠ k) = [] then (c + 1, ks) :: (c', ks') :: rest' else (c, ks.filter (· ≠ k)) :: (c + 1, [k]) :: (c', ks') :: rest')
  | [] => if ks.filter (· ≠ k) = [] then [(c + 1, ks)] else [(c, ks.filter (· ≠ k)), (c + 1, [k])]
def tch (k : Int) : Sh → Sh
  | [] => []
  | (c, ks) :: rest => if k ∈ ks then tchAt k c ks rest else (c, ks) :: tch k rest
def dch (k : Int) : Sh → Sh
  | [] => []
  | (c, ks) :: rest => if k ∈ ks then (if ks.filter (· ≠ k) = [] then rest else (c, ks.filter (· ≠ k)) :: rest) else (c, ks) :: dch k rest
def ich (k : Int) : Sh → Sh
  | [] => [(1, [k])]
  | (c, ks) :: rest => if c = 1 then (c, ks ++ [k]) :: rest else (1, [k]) :: (c, ks) :: rest
structure WF (sh : Sh) : Prop where
  nd : (keysOf sh).Nodup
  ne : ∀ p ∈ sh, p.2 ≠ [] ∧ 1 ≤ p.1
structure LfuOk (kvs lk : List (Int × Value)) (ch : List Lk) : Prop where
  lnk : ∀ n ∈ ch, ∀ k ∈ n.ks, valueAt lk k = some (.ref n.l)
  lks : (lk.map (·.1)).Perm (keysOf (shape ch))
  kks : (kvs.map (·.1)).Perm (keysOf (shape ch))
  wf : WF (shape ch)
/-- an LFU cache: what it holds, in which order it goes -/
def Lfu (w : World) (a : Nat) (mx : Int) (kvs : List (Int × Value)) (sh : Sh) (own : List (Addr × Obj)) : Prop :=
  ∃ da dd ld r lk ch, LfuIs w a da dd ld r mx kvs lk ch own ∧ shape ch = sh ∧ LfuOk kvs lk ch
theorem keysOf_append (a b : Sh) : keysOf (a ++ b) = keysOf a ++ keysOf b := List.flatMap_append
theorem keysOf_cons (p : Int × List Int) (b : Sh) : keysOf (p :: b) = p.2 ++ keysOf b := List.flatMap_cons
theorem shape_append (a b : List Lk) : shape (a ++ b) = shape a ++ shape b := List.map_append
theorem shape_cons (n : Lk) (b : List Lk) : shape (n :: b) = (n.c, n.ks) :: shape b := rfl
theorem filter_ne_self {ks : List Int} {k : Int} (h : k ∉ ks) : ks.filter (· ≠ k) = ks := List.filter_eq_self.mpr fun x hx => by
  have : x ≠ k := fun e => h (e ▸ hx)
  simpa using this
theorem tch_pre {k : Int} : ∀ {p s : Sh}, k ∉ keysOf p → tch k (p ++ s) = p ++ tch k s
  | [], _, _ => rfl
  | (c, ks) :: p, s, h => by
    rw [keysOf_cons, List.mem_append, not_or] at h
    rw [List.cons_append, tch, if_neg h.1, tch_pre h.2]; rfl
theorem dch_pre {k : Int} : ∀ {p s : Sh}, k ∉ keysOf p → dch k (p ++ s) = p ++ dch k s
  | [], _, _ => rfl
  | (c, ks) :: p, s, h => by
    rw [keysOf_cons, List.mem_append, not_or] at h
    rw [List.cons_append, dch, if_neg h.1, dch_pre h.2]; rfl
theorem mem_keysOf {k : Int} {sh : Sh} : k ∈ keysOf sh ↔ ∃ p ∈ sh, k ∈ p.2 := List.mem_flatMap
theorem find_link {k : Int} : ∀ {ch : List Lk}, k ∈ keysOf (shape ch) → ∃ pre n post, ch = pre ++ n :: post ∧ k ∈ n.ks ∧ k ∉ keysOf (shape pre)
  | [], h => by cases h
  | m :: ch, h => by
    by_cases e : k ∈ m.ks
    · exact ⟨[], m, ch, rfl, e, fun q => by cases q⟩
    · rw [shape_cons, keysOf_cons, List.mem_append] at h
      obtain ⟨pre, n, post, rfl, hn, hp⟩ := find_link (h.resolve_left e)
      exact ⟨m :: pre, n, post, rfl, hn, fun q => by
        rw [shape_cons, keysOf_cons, List.mem_append] at q
        exact q.elim e hp⟩
theorem valueAt_stored' {kvs : List (Int × Value)} {k : Int} {v : Value} : ∀ k', valueAt (stored kvs k v) k' = if k' = k then some v else valueAt kvs k' := by
  intro k'
  by_cases e : k' = k
  · subst e; rw [if_pos rfl]; exact valueAt_stored _ _ _
  · rw [if_neg e]
    unfold stored
    split
    · unfold valueAt
      rw [List.find?_map]
      simp only [Option.map_map]
      have : ((fun kv : Int × Value => decide (kv.1 = k')) ∘ fun kv => if kv.1 = k then (kv.1, v) else kv) = fun kv => decide (kv.1 = k') := by
        funext kv; simp only [Function.comp]; split <;> rfl
      rw [this]
      cases h : List.find? (fun kv => decide (kv.1 = k')) kvs with
      | none => rfl
      | some p =>
        have hp := List.find?_some h
        simp only [decide_eq_true_eq] at hp
        simp only [Option.map_some, Function.comp]
        rw [if_neg (by rw [hp]; exact e)]
    · unfold valueAt
      rw [List.find?_append]
      cases h : List.find? (fun kv => decide (kv.1 = k')) kvs with
      | none => simp [show ¬ k = k' from fun q => e q.symm]
      | some p => rfl
theorem stored_keys_old {kvs : List (Int × Value)} {k : Int} {v : Value} (h : k ∈ kvs.map (·.1)) : (stored kvs k v).map (·.1) = kvs.map (·.1) := by
  have ha : kvs.any (fun kv => kv.1 = k) = true := by rw [← valueAt_isSome_eq_any]; exact valueAt_mem.mpr h
  unfold stored
  simp only [ha, if_true, List.map_map]
  apply List.map_congr_left
  intro p _
  simp only [Function.comp]
  split <;> rfl
theorem stored_keys_new {kvs : List (Int × Value)} {k : Int} {v : Value} (h : k ∉ kvs.map (·.1)) : (stored kvs k v).map (·.1) = kvs.map (·.1) ++ [k] := by
  rw [stored_absent (by cases e : valueAt kvs k with | none => rfl | some x => exact absurd (valueAt_mem.mp (by rw [e]; rfl)) h)]
  simp
theorem without_keys {kvs : List (Int × Value)} {k : Int} : (without kvs k).map (·.1) = (kvs.map (·.1)).filter (· ≠ k) := by
  unfold without
  rw [List.filter_map]; rfl
theorem keysOf_dch {k : Int} : ∀ {sh : Sh}, (keysOf sh).Nodup → keysOf (dch k sh) = (keysOf sh).filter (· ≠ k)
  | [], _ => rfl
  | (c, ks) :: rest, h => by
    rw [keysOf_cons, List.nodup_append] at h
    rw [keysOf_cons, List.filter_append, dch]
    split
    · rename_i hk
      have hr : k ∉ keysOf rest := fun q => h.2.2 k hk k q rfl
      rw [filter_ne_self hr]
      split
      · rename_i he; rw [he]; rfl
      · rw [keysOf_cons]
    · rename_i hk
      rw [keysOf_cons, keysOf_dch h.2.1, filter_ne_self hk]
theorem perm_filter_add {ks : List Int} {k : Int} (hn : ks.Nodup) (hk : k ∈ ks) : (ks.filter (· ≠ k) ++ [k]).Perm ks := by
  induction ks with
  | nil => cases hk
  | cons x ks ih =>
    rw [List.nodup_cons] at hn
    by_cases e : x = k
    · subst e
      rw [List.filter_cons_of_neg (by simp), filter_ne_self hn.1]
      exact List.perm_append_comm (l₁ := ks) (l₂ := [x])
    · rw [List.filter_cons_of_pos (by simp [e])]
      exact (ih hn.2 ((List.mem_cons.mp hk).resolve_left fun q => e q.symm)).cons x
theorem keysOf_tch {k : Int} : ∀ {sh : Sh}, (keysOf sh).Nodup → (keysOf (tch k sh)).Perm (keysOf sh)
  | [], _ => .refl _
  | (c, ks) :: rest, h => by
    rw [keysOf_cons, List.nodup_append] at h
    rw [tch]
    split
    · rename_i hk
      have hp := perm_filter_add h.1 hk
      cases rest with
      | nil =>
        rw [tchAt]
        split
        · exact .refl _
        · simp only [keysOf_cons, show keysOf ([] : Sh) = [] from rfl, List.append_nil]; exact hp
      | cons q rest =>
        obtain ⟨c', ks'⟩ := q
        rw [tchAt]
        have h2 : (ks' ++ [k] ++ keysOf rest).Perm ([k] ++ (ks' ++ keysOf rest)) := by
          rw [List.append_assoc]
          exact (List.perm_append_comm_assoc ks' [k] (keysOf rest))
        have h3 : (ks.filter (· ≠ k) ++ (ks' ++ [k] ++ keysOf rest)).Perm (ks ++ (ks' ++ keysOf rest)) := by
          refine (List.Perm.append_left _ h2).trans ?_
          rw [← List.append_assoc]
          exact List.Perm.append_right _ hp
        split
        · split
          · rename_i he
            rw [he] at h3
            simpa only [keysOf_cons, List.nil_append] using h3
          · simpa only [keysOf_cons] using h3
        · split
          · exact .refl _
          · simp only [keysOf_cons]
            rw [← List.append_assoc]
            exact List.Perm.append_right _ hp
    · rw [keysOf_cons, keysOf_cons]
      exact List.Perm.append_left _ (keysOf_tch h.2.1)
theorem keysOf_ich {k : Int} : ∀ {sh : Sh}, (keysOf (ich k sh)).Perm (keysOf sh ++ [k])
  | [] => .refl _
  | (c, ks) :: rest => by
    rw [ich]
    split
    · simp only [keysOf_cons, List.append_assoc]
      exact List.Perm.append_left _ (List.perm_append_comm (l₁ := [k]) (l₂ := keysOf rest))
    · simp only [keysOf_cons]
      exact List.perm_append_comm (l₁ := [k]) (l₂ := ks ++ keysOf rest)
theorem LfuOk.mem {kvs lk : List (Int × Value)} {ch : List Lk} (O : LfuOk kvs lk ch) {k : Int} : (valueAt kvs k).isSome = true ↔ k ∈ keysOf (shape ch) := by
  rw [valueAt_mem]; exact O.kks.mem_iff
theorem LfuOk.len {kvs lk : List (Int × Value)} {ch : List Lk} (O : LfuOk kvs lk ch) : lk.length = kvs.length := by
  have h1 := O.lks.length_eq; have h2 := O.kks.length_eq
  rw [List.length_map] at h1 h2; omega
theorem ks_len {n : Lk} {pre post : List Lk} {kvs lk : List (Int × Value)} (O : LfuOk kvs lk (pre ++ n :: post)) : n.ks.length ≤ kvs.length := by
  have h2 := O.kks.length_eq
  rw [List.length_map, shape_append, keysOf_append, shape_cons, keysOf_cons, List.length_append, List.length_append] at h2
  dsimp only at h2
  omega
section H
variable {w : World} {a da dd ld r : Nat} {mx : Int} {kvs lk : List (Int × Value)} {own : List (Addr × Obj)} {k : Int} {tk : Tok} {ch : List Lk}
theorem h_touch (I : LfuIs w a da dd ld r mx kvs lk ch own) (O : LfuOk kvs lk ch) (hk : k ∈ keysOf (shape ch)) (hz : kvs.length ≤ 62) :
    Does w 580 4800 976 [.ref a, .int k tk] own (fun v own' => v = .none ∧ ∃ lk' ch', LfuIs w a da dd ld r mx kvs lk' ch' own' ∧ shape ch' = tch k (shape ch) ∧ LfuOk kvs lk' ch') := by
  obtain ⟨pre, n, post, rfl, hn, hp⟩ := find_link hk
  have nd := O.wf.nd
  rw [shape_append, keysOf_append, List.nodup_append] at nd
  have nd2 := nd.2.1
  rw [shape_cons, keysOf_cons, List.nodup_append] at nd2
  dsimp only at nd2
  have hv := O.lnk n (by simp) k hn
  have hc1 : 1 ≤ n.c := (O.wf.ne (n.c, n.ks) (by rw [shape_append, shape_cons]; simp)).2
  have hzl : lk.length ≤ 64 := by have := O.len; omega
  have hzn : n.ks.length ≤ 62 := Nat.le_trans (ks_len O) hz
  have hkl : k ∈ lk.map (·.1) := O.lks.mem_iff.mpr hk
  have hlk : ∀ v', ((stored lk k v').map (·.1)).Perm (keysOf (shape (pre ++ n :: post))) := fun v' => by rw [stored_keys_old hkl]; exact O.lks
  have hpre : ∀ m ∈ pre, k ∉ m.ks := fun m hm q => hp (mem_keysOf.mpr ⟨(m.c, m.ks), List.mem_map_of_mem hm, q⟩)
  have hpost : ∀ m ∈ post, k ∉ m.ks := fun m hm q => nd2.2.2 k hn k (mem_keysOf.mpr ⟨(m.c, m.ks), List.mem_map_of_mem hm, q⟩) rfl
  -- the new state is well formed, whatever it is
  have fin : ∀ (lk' : List (Int × Value)) (ch' : List Lk), shape ch' = tch k (shape (pre ++ n :: post)) → (lk'.map (·.1)).Perm (keysOf (shape (pre ++ n :: post))) → (∀ m ∈ ch', ∀ k' ∈ m.ks, valueAt lk' k' = some (.ref m.l)) → (∀ p ∈ shape ch', p.2 ≠ [] ∧ 1 ≤ p.1) → LfuOk kvs lk' ch' := fun lk' ch' hs h1 h2 h3 => by
    have hpm := keysOf_tch (k := k) O.wf.nd
    rw [← hs] at hpm
    exact ⟨h2, h1.trans hpm.symm, O.kks.trans hpm.symm, ⟨(List.Perm.nodup_iff hpm).mpr O.wf.nd, h3⟩⟩
  have hold : ∀ v', ∀ m ∈ pre ++ n :: post, ∀ k' ∈ m.ks, k' ≠ k → valueAt (stored lk k v') k' = some (.ref m.l) := fun v' m hm k' hk' e => by
    rw [valueAt_stored', if_neg e]; exact O.lnk m hm k' hk'
  have hne : ∀ m ∈ pre ++ n :: post, (m.ks ≠ [] ∧ 1 ≤ m.c) := fun m hm => O.wf.ne (m.c, m.ks) (List.mem_map_of_mem hm)
  by_cases hf : n.ks.filter (· ≠ k) = []
  · have h1 : n.ks = [k] := by
      have := perm_filter_add nd2.1 hn
      rw [hf, List.nil_append] at this
      exact (List.perm_singleton.mp this.symm)
    by_cases hx : ∃ x post', post = x :: post' ∧ x.c = n.c + 1
    · obtain ⟨x, post, rfl, hxc⟩ := hx
      have hs : shape (pre ++ ⟨x.l, x.ld, x.kd, x.c, x.ks ++ [k]⟩ :: post) = tch k (shape (pre ++ n :: x :: post)) := by
        rw [shape_append, shape_append, tch_pre hp]
        simp only [shape_cons]
        rw [tch, if_pos hn, tchAt, if_pos hxc, if_pos hf]
      refine (g_touch_merge_go I hv hn (hpost x (by simp)) hf hxc hzl (by omega) (Nat.le_trans (ks_len (pre := pre ++ [n]) (post := post) (by simpa using O)) (by omega))).ex fun v own' h => ⟨h.1, _, _, h.2, hs, fin _ _ hs (hlk _) ?_ ?_⟩
      · intro m hm k' hk'
        simp only [List.mem_append, List.mem_cons] at hm
        rcases hm with hm | rfl | hm
        · exact hold _ m (by simp [hm]) k' hk' fun e => hpre m hm (e ▸ hk')
        · rcases List.mem_append.mp hk' with q | q
          · exact hold _ x (by simp) k' q fun e => hpost x (by simp) (e ▸ q)
          · rw [List.mem_singleton.mp q]; exact valueAt_stored _ _ _
        · exact hold _ m (by simp [hm]) k' hk' fun e => hpost m (by simp [hm]) (e ▸ hk')
      · intro p hp'
        obtain ⟨m, hm, rfl⟩ := List.mem_map.mp hp'
        simp only [List.mem_append, List.mem_cons] at hm
        rcases hm with hm | rfl | hm
        · exact hne m (by simp [hm])
        · exact ⟨by simp, (hne x (by simp)).2⟩
        · exact hne m (by simp [hm])
    · have hx' : ∀ x post', post = x :: post' → x.c ≠ n.c + 1 := fun x post' e q => hx ⟨x, post', e, q⟩
      have hs : shape (pre ++ ⟨n.l, n.ld, n.kd, n.c + 1, n.ks⟩ :: post) = tch k (shape (pre ++ n :: post)) := by
        rw [shape_append, shape_append, tch_pre hp]
        simp only [shape_cons]
        rw [tch, if_pos hn]
        cases post with
        | nil => rw [show shape ([] : List Lk) = [] from rfl, tchAt, if_pos hf]
        | cons x post => rw [shape_cons, tchAt, if_neg (hx' x post rfl), if_pos hf]
      refine (g_touch_in_place I hv (by rw [h1]; rfl) hx' (by omega)).ex fun v own' h => ⟨h.1, _, _, h.2, hs, fin _ _ hs O.lks ?_ ?_⟩
      · intro m hm k' hk'
        simp only [List.mem_append, List.mem_cons] at hm
        rcases hm with hm | rfl | hm
        · exact O.lnk m (by simp [hm]) k' hk'
        · exact O.lnk n (by simp) k' hk'
        · exact O.lnk m (by simp [hm]) k' hk'
      · intro p hp'
        obtain ⟨m, hm, rfl⟩ := List.mem_map.mp hp'
        simp only [List.mem_append, List.mem_cons] at hm
        rcases hm with hm | rfl | hm
        · exact hne m (by simp [hm])
        · exact ⟨(hne n (by simp)).1, by show 1 ≤ n.c + 1; omega⟩
        · exact hne m (by simp [hm])
  · have hfl : ∀ k' ∈ n.ks.filter (· ≠ k), k' ∈ n.ks ∧ k' ≠ k := fun k' h => by simpa using h
    by_cases hx : ∃ x post', post = x :: post' ∧ x.c = n.c + 1
    · obtain ⟨x, post, rfl, hxc⟩ := hx
      have hs : shape (pre ++ ⟨n.l, n.ld, n.kd, n.c, n.ks.filter (· ≠ k)⟩ :: ⟨x.l, x.ld, x.kd, x.c, x.ks ++ [k]⟩ :: post) = tch k (shape (pre ++ n :: x :: post)) := by
        rw [shape_append, shape_append, tch_pre hp]
        simp only [shape_cons]
        rw [tch, if_pos hn, tchAt, if_pos hxc, if_neg hf]
      refine (g_touch_merge_stay I hv hn (hpost x (by simp)) hf hxc hzl (by omega) (Nat.le_trans (ks_len (pre := pre ++ [n]) (post := post) (by simpa using O)) (by omega))).ex fun v own' h => ⟨h.1, _, _, h.2, hs, fin _ _ hs (hlk _) ?_ ?_⟩
      · intro m hm k' hk'
        simp only [List.mem_append, List.mem_cons] at hm
        rcases hm with hm | rfl | rfl | hm
        · exact hold _ m (by simp [hm]) k' hk' fun e => hpre m hm (e ▸ hk')
        · exact hold _ n (by simp) k' (hfl k' hk').1 (hfl k' hk').2
        · rcases List.mem_append.mp hk' with q | q
          · exact hold _ x (by simp) k' q fun e => hpost x (by simp) (e ▸ q)
          · rw [List.mem_singleton.mp q]; exact valueAt_stored _ _ _
        · exact hold _ m (by simp [hm]) k' hk' fun e => hpost m (by simp [hm]) (e ▸ hk')
      · intro p hp'
        obtain ⟨m, hm, rfl⟩ := List.mem_map.mp hp'
        simp only [List.mem_append, List.mem_cons] at hm
        rcases hm with hm | rfl | rfl | hm
        · exact hne m (by simp [hm])
        · exact ⟨hf, (hne n (by simp)).2⟩
        · exact ⟨by simp, (hne x (by simp)).2⟩
        · exact hne m (by simp [hm])
    · have hx' : ∀ x post', post = x :: post' → x.c ≠ n.c + 1 := fun x post' e q => hx ⟨x, post', e, q⟩
      have hl1 : n.ks.length ≠ 1 := fun e => by
        obtain ⟨z, hz'⟩ := List.length_eq_one_iff.mp e
        rw [hz'] at hn hf
        rw [List.mem_singleton] at hn
        subst hn
        exact hf (by simp)
      refine (g_touch_split I hv hn hl1 hf hx' (by omega) hzl (by omega)).ex fun v own' h => ⟨h.1, ?_⟩
      obtain ⟨-, y, yd, yk, h⟩ := h
      have hs : shape (pre ++ ⟨n.l, n.ld, n.kd, n.c, n.ks.filter (· ≠ k)⟩ :: ⟨y, yd, yk, n.c + 1, [k]⟩ :: post) = tch k (shape (pre ++ n :: post)) := by
        rw [shape_append, shape_append, tch_pre hp]
        simp only [shape_cons]
        rw [tch, if_pos hn]
        cases post with
        | nil => rw [show shape ([] : List Lk) = [] from rfl, tchAt, if_neg hf]
        | cons x post => rw [shape_cons, tchAt, if_neg (hx' x post rfl), if_neg hf]
      refine ⟨_, _, h, hs, fin _ _ hs (hlk _) ?_ ?_⟩
      · intro m hm k' hk'
        simp only [List.mem_append, List.mem_cons] at hm
        rcases hm with hm | rfl | rfl | hm
        · exact hold _ m (by simp [hm]) k' hk' fun e => hpre m hm (e ▸ hk')
        · exact hold _ n (by simp) k' (hfl k' hk').1 (hfl k' hk').2
        · rw [List.mem_singleton.mp hk']; exact valueAt_stored _ _ _
        · exact hold _ m (by simp [hm]) k' hk' fun e => hpost m (by simp [hm]) (e ▸ hk')
      · intro p hp'
        obtain ⟨m, hm, rfl⟩ := List.mem_map.mp hp'
        simp only [List.mem_append, List.mem_cons] at hm
        rcases hm with hm | rfl | rfl | hm
        · exact hne m (by simp [hm])
        · exact ⟨hf, (hne n (by simp)).2⟩
        · exact ⟨by simp, by show 1 ≤ n.c + 1; omega⟩
        · exact hne m (by simp [hm])
theorem h_del (I : LfuIs w a da dd ld r mx kvs lk ch own) (O : LfuOk kvs lk ch) (hk : k ∈ keysOf (shape ch)) (hz : kvs.length ≤ 62) :
    Does w 590 4900 955 [.ref a, .int k tk] own (fun v own' => v = .none ∧ ∃ lk' ch', LfuIs w a da dd ld r mx (without kvs k) lk' ch' own' ∧ shape ch' = dch k (shape ch) ∧ LfuOk (without kvs k) lk' ch') := by
  have hvd := O.mem.mpr hk
  obtain ⟨pre, n, post, rfl, hn, hp⟩ := find_link hk
  have nd := O.wf.nd
  rw [shape_append, keysOf_append, List.nodup_append] at nd
  have nd2 := nd.2.1
  rw [shape_cons, keysOf_cons, List.nodup_append] at nd2
  dsimp only at nd2
  have hv := O.lnk n (by simp) k hn
  have hzl : lk.length ≤ 64 := by have := O.len; omega
  have hzn : n.ks.length ≤ 62 := Nat.le_trans (ks_len O) hz
  have hpre : ∀ m ∈ pre, k ∉ m.ks := fun m hm q => hp (mem_keysOf.mpr ⟨(m.c, m.ks), List.mem_map_of_mem hm, q⟩)
  have hpost : ∀ m ∈ post, k ∉ m.ks := fun m hm q => nd2.2.2 k hn k (mem_keysOf.mpr ⟨(m.c, m.ks), List.mem_map_of_mem hm, q⟩) rfl
  have fin : ∀ (ch' : List Lk), shape ch' = dch k (shape (pre ++ n :: post)) → (∀ m ∈ ch', ∀ k' ∈ m.ks, valueAt (without lk k) k' = some (.ref m.l)) → (∀ p ∈ shape ch', p.2 ≠ [] ∧ 1 ≤ p.1) → LfuOk (without kvs k) (without lk k) ch' := fun ch' hs h2 h3 => by
    have hpm := keysOf_dch (k := k) O.wf.nd
    rw [← hs] at hpm
    refine ⟨h2, ?_, ?_, ⟨?_, h3⟩⟩
    · rw [hpm, without_keys]; exact O.lks.filter _
    · rw [hpm, without_keys]; exact O.kks.filter _
    · rw [hpm]; exact O.wf.nd.filter _
  have hold : ∀ m ∈ pre ++ n :: post, ∀ k' ∈ m.ks, k' ≠ k → valueAt (without lk k) k' = some (.ref m.l) := fun m hm k' hk' e => by
    rw [valueAt_without, if_neg e]; exact O.lnk m hm k' hk'
  have hne : ∀ m ∈ pre ++ n :: post, (m.ks ≠ [] ∧ 1 ≤ m.c) := fun m hm => O.wf.ne (m.c, m.ks) (List.mem_map_of_mem hm)
  by_cases hf : n.ks.filter (· ≠ k) = []
  · have hs : shape (pre ++ post) = dch k (shape (pre ++ n :: post)) := by
      rw [shape_append, shape_append, dch_pre hp, shape_cons, dch, if_pos hn, if_pos hf]
    refine (g_del_go I hvd hv hn (by omega) hzl (by omega) hf).ex fun v own' h => ⟨h.1, _, _, h.2, hs, fin _ hs ?_ ?_⟩
    · intro m hm k' hk'
      rcases List.mem_append.mp hm with hm | hm
      · exact hold m (by simp [hm]) k' hk' fun e => hpre m hm (e ▸ hk')
      · exact hold m (by simp [hm]) k' hk' fun e => hpost m hm (e ▸ hk')
    · intro p hp'
      obtain ⟨m, hm, rfl⟩ := List.mem_map.mp hp'
      rcases List.mem_append.mp hm with hm | hm
      · exact hne m (by simp [hm])
      · exact hne m (by simp [hm])
  · have hfl : ∀ k' ∈ n.ks.filter (· ≠ k), k' ∈ n.ks ∧ k' ≠ k := fun k' h => by simpa using h
    have hs : shape (pre ++ ⟨n.l, n.ld, n.kd, n.c, n.ks.filter (· ≠ k)⟩ :: post) = dch k (shape (pre ++ n :: post)) := by
      rw [shape_append, shape_append, dch_pre hp, shape_cons, shape_cons, dch, if_pos hn, if_neg hf]
    refine (g_del_stay I hvd hv hn (by omega) hzl (by omega) hf).ex fun v own' h => ⟨h.1, _, _, h.2, hs, fin _ hs ?_ ?_⟩
    · intro m hm k' hk'
      simp only [List.mem_append, List.mem_cons] at hm
      rcases hm with hm | rfl | hm
      · exact hold m (by simp [hm]) k' hk' fun e => hpre m hm (e ▸ hk')
      · exact hold n (by simp) k' (hfl k' hk').1 (hfl k' hk').2
      · exact hold m (by simp [hm]) k' hk' fun e => hpost m hm (e ▸ hk')
    · intro p hp'
      obtain ⟨m, hm, rfl⟩ := List.mem_map.mp hp'
      simp only [List.mem_append, List.mem_cons] at hm
      rcases hm with hm | rfl | hm
      · exact hne m (by simp [hm])
      · exact ⟨hf, (hne n (by simp)).2⟩
      · exact hne m (by simp [hm])
end H
end
section
section H
variable {w : World} {a da dd ld r : Nat} {mx : Int} {kvs lk : List (Int × Value)} {own : List (Addr × Obj)} {k k0 : Int} {t t0 tk : Tok} {ch : List Lk} {v v0 : Value} {sh : Sh}
/-- an LFU cache taken apart: what every cache has, and the rest -/
theorem LfuIs.open (I : LfuIs w a da dd ld r mx kvs lk ch own) : ∃ ob o3 rest, own = ob ++ (ld, o3) :: rest ∧ LfuB w a da dd ld r mx kvs ob ∧ o3.IsDictOf (PySem.intKind lawProg w) lk ∧ (ld == sysModules) = false ∧ Apart ob ((ld, o3) :: rest) ∧
    ∀ (kvs' : List (Int × Value)) (ob' : List (Addr × Obj)), LfuB w a da dd ld r mx kvs' ob' → LfuIs w a da dd ld r mx kvs' lk ch (ob' ++ (ld, o3) :: rest) := by
  obtain ⟨n0, t1, t2, t3, t4, t5, t6, t7, o1, o3, rd, rk, tr, seg, rfl, hn, d1, d3, lo1, lo3, Sg, hnd⟩ := I
  have hB : Nas [a, da, dd] := nas_of ((show [a, da, dd].Sublist _ from List.sublist_append_left [a, da, dd] _).nodup hnd)
  refine ⟨_, o3, _, rfl, LfuB.mk hn d1 lo1 hB, d3, lo3, apart_of_nodup hnd, ?_⟩
  rintro kvs' _ ⟨n0', t1', t2', t3', t4', t5', t6', t7', o1', rfl, hn', d1', lo1', -⟩
  exact LfuIs.mk hn' d1' d3 lo1' lo3 Sg hnd
theorem LfuIs.whole (I : LfuIs w a da dd ld r mx kvs lk ch own) : ∃ n t1 t2 t3 t4 t5 t6 t7 o1 rest', own = lfuOwn3 w.params a da dd ld r n mx t1 t2 t3 t4 t5 t6 t7 o1 ++ rest' := by
  obtain ⟨n0, t1, t2, t3, t4, t5, t6, t7, o1, o3, rd, rk, tr, seg, rfl, -⟩ := I
  exact ⟨_, _, _, _, _, _, _, _, _, _, rfl⟩
theorem h_get (I : LfuIs w a da dd ld r mx kvs lk ch own) (O : LfuOk kvs lk ch) (hv : valueAt kvs k = some v) (hz : kvs.length ≤ 62) :
    Does w 570 4790 939 [.ref a, .int k t] own (fun r' own' => r' = v ∧ ∃ lk' ch', LfuIs w a da dd ld r mx kvs lk' ch' own' ∧ shape ch' = tch k (shape ch) ∧ LfuOk kvs lk' ch') := by
  have hk : k ∈ keysOf (shape ch) := O.mem.mp (is_of hv)
  have hl : (valueAt lk k).isSome = true := valueAt_mem.mpr (O.lks.mem_iff.mpr hk)
  have St : ∀ tk, Does w 580 4800 976 [.ref a, .int k tk] own _ := fun tk => h_touch (tk := tk) I O hk hz
  obtain ⟨ob, o3, rest, rfl, B, d3, lo3, ap, -⟩ := I.open
  exact (lfu_get_gen B d3 lo3 hv hl ap St).ex fun r' o h => ⟨h.1, h.2.elim fun _ q => q.2⟩
theorem h_read_in (I : LfuIs w a da dd ld r mx kvs lk ch own) (O : LfuOk kvs lk ch) (hv : valueAt kvs k = some v) (hz : kvs.length ≤ 62) :
    Does w 560 4780 778 [.ref a, .int k t, v0] own (fun r' own' => r' = v ∧ ∃ lk' ch', LfuIs w a da dd ld r mx kvs lk' ch' own' ∧ shape ch' = tch k (shape ch) ∧ LfuOk kvs lk' ch') := by
  have Sg := h_get (t := t) I O hv hz
  obtain ⟨ob, o3, rest, rfl, B, d3, lo3, ap, -⟩ := I.open
  exact lfu_read_in B (is_of hv) ap Sg
theorem h_read_out (I : LfuIs w a da dd ld r mx kvs lk ch own) (hv : (valueAt kvs k).isSome = false) :
    Does w 560 4780 778 [.ref a, .int k t, v0] own (fun r' own' => r' = v0 ∧ own' = own) := by
  obtain ⟨ob, o3, rest, rfl, B, d3, lo3, ap, -⟩ := I.open
  exact lfu_read_out B hv ap
theorem h_pop_out {x : Str} (I : LfuIs w a da dd ld r mx kvs lk ch own) (hv : (valueAt kvs k).isSome = false) :
    Does w 560 4780 786 [.ref a, .int k t, .str x t0] own (fun r' own' => r' = .str x t0 ∧ own' = own) := by
  obtain ⟨ob, o3, rest, rfl, B, d3, lo3, ap, -⟩ := I.open
  exact lfu_pop_out B hv ap
theorem h_pop_in (I : LfuIs w a da dd ld r mx kvs lk ch own) (O : LfuOk kvs lk ch) (hv : valueAt kvs k = some v) (hz : kvs.length ≤ 62) :
    Does w 560 4770 786 [.ref a, .int k t, v0] own (fun r' own' => r' = v ∧ ∃ lk' ch', LfuIs w a da dd ld r mx (without kvs k) lk' ch' own' ∧ shape ch' = dch k (tch k (shape ch)) ∧ LfuOk (without kvs k) lk' ch') := by
  have hk : k ∈ keysOf (shape ch) := O.mem.mp (is_of hv)
  have Sg : Does w 570 4790 939 [.ref a, .int k t] own (fun r' own' => r' = v ∧ ∃ n t1 t2 t3 t4 t5 t6 t7 o1 rest', own' = lfuOwn3 w.params a da dd ld r n mx t1 t2 t3 t4 t5 t6 t7 o1 ++ rest' ∧ Does w 578 4780 955 [.ref a, .int k t] own' (fun r' own' => r' = .none ∧ ∃ lk' ch', LfuIs w a da dd ld r mx (without kvs k) lk' ch' own' ∧ shape ch' = dch k (tch k (shape ch)) ∧ LfuOk (without kvs k) lk' ch')) := by
    refine (h_get (t := t) I O hv hz).ex fun r' o h => ⟨h.1, ?_⟩
    obtain ⟨-, lk', ch', I', hs, O'⟩ := h
    have hk' : k ∈ keysOf (shape ch') := O'.mem.mp (is_of hv)
    have S := (h_del (tk := t) I' O' hk' hz).dp (D' := 578) (U' := 4780) (by omega) (by omega)
    rw [hs] at S
    obtain ⟨n, t1, t2, t3, t4, t5, t6, t7, o1, rest', e⟩ := I'.whole
    exact ⟨n, t1, t2, t3, t4, t5, t6, t7, o1, rest', e, S⟩
  obtain ⟨ob, o3, rest, rfl, B, d3, lo3, ap, -⟩ := I.open
  exact lfu_pop_in B (is_of hv) ap Sg
theorem h_popitem {c : Int} {ks : List Int} (I : LfuIs w a da dd ld r mx kvs lk ch own) (O : LfuOk kvs lk ch) (hs : shape ch = (c, k0 :: ks) :: sh) (hv : valueAt kvs k0 = some v) (hz : kvs.length ≤ 62) :
    Does w 570 4770 962 [.ref a] own (fun r' own' => ∃ T tk own2, r' = .ref T ∧ own' = (T, { cls := .type "tuple", data := .seq #[.int k0 tk, v] }) :: own2 ∧ ∃ lk' ch', LfuIs w a da dd ld r mx (without kvs k0) lk' ch' own2 ∧ shape ch' = dch k0 (shape ch) ∧ LfuOk (without kvs k0) lk' ch') := by
  have hk : k0 ∈ keysOf (shape ch) := O.mem.mp (is_of hv)
  have Sd : ∀ tk, Does w 578 4780 955 [.ref a, .int k0 tk] own _ := fun tk => (h_del (tk := tk) I O hk hz).dp (D' := 578) (U' := 4780) (by omega) (by omega)
  obtain ⟨n0, t1, t2, t3, t4, t5, t6, t7, o1, o3, rd, rk, tr, seg, rfl, hn, d1, d3, lo1, lo3, Sg, hnd⟩ := I
  cases ch with
  | nil => cases hs
  | cons n post =>
    rw [shape_cons] at hs
    obtain ⟨hs1, hs2⟩ := List.cons.inj hs
    obtain ⟨rfl, hks⟩ := Prod.mk.inj hs1
    obtain ⟨tx, ox, s, rfl, dx, lox, S⟩ := Sg
    have hB : Nas [a, da, dd] := nas_of ((show [a, da, dd].Sublist _ from List.sublist_append_left [a, da, dd] _).nodup hnd)
    have hxr : Na n.l r := ⟨fun e => by
      rw [hdA_cons] at hnd
      simp only [lfuOwn3, List.map_append, List.map_cons, List.map_nil, List.cons_append, List.nil_append, List.nodup_cons, List.mem_cons] at hnd
      obtain ⟨-, -, -, -, h5, -⟩ := hnd
      exact h5 (.inr (.inl e.symm))⟩
    exact lfu_popitem_gen (LfuB.mk hn d1 lo1 hB) dx lox (by rw [hks]; rfl) hv (apart_of_nodup hnd) hxr Sd
/-- the cache between the two halves of a set: k is in the data, not in the ring -/
structure MidOk (kvs lk : List (Int × Value)) (ch : List Lk) (k : Int) : Prop where
  lnk : ∀ n ∈ ch, ∀ k ∈ n.ks, valueAt lk k = some (.ref n.l)
  lks : (lk.map (·.1)).Perm (keysOf (shape ch))
  kks : (kvs.map (·.1)).Perm (keysOf (shape ch) ++ [k])
  wf : WF (shape ch)
  no : k ∉ keysOf (shape ch)
theorem MidOk.fin {ch' : List Lk} {l : Nat} (M : MidOk kvs lk ch k) (hs : shape ch' = ich k (shape ch)) (h : ∀ n ∈ ch', ∀ k' ∈ n.ks, valueAt (stored lk k (.ref l)) k' = some (.ref n.l)) (h2 : ∀ p ∈ shape ch', p.2 ≠ [] ∧ 1 ≤ p.1) : LfuOk kvs (stored lk k (.ref l)) ch' := by
  have hp := keysOf_ich (k := k) (sh := shape ch)
  rw [← hs] at hp
  have hn : k ∉ lk.map (·.1) := fun q => M.no (M.lks.mem_iff.mp q)
  refine ⟨h, ?_, M.kks.trans hp.symm, ⟨(List.Perm.nodup_iff hp).mpr (List.nodup_append.mpr ⟨M.wf.nd, by simp, fun b hb c hc e => M.no (by rw [List.mem_singleton] at hc; rw [← hc, ← e]; exact hb)⟩), h2⟩⟩
  rw [stored_keys_new hn]
  exact (M.lks.append_right [k]).trans hp.symm
theorem h_set_ins {own0 : List (Addr × Obj)} {sh' : Sh} {kvs' : List (Int × Value)} (hz : kvs'.length ≤ 62)
    (S0 : Does w 560 4690 735 [.ref a, .int k t, v] own0 (fun r' own' => r' = .none ∧ ∃ lk ch, LfuIs w a da dd ld r mx kvs' lk ch own' ∧ shape ch = sh' ∧ MidOk kvs' lk ch k)) :
    Does w 550 4680 947 [.ref a, .int k t, v] own0 (fun r' own' => r' = .none ∧ ∃ lk ch, LfuIs w a da dd ld r mx kvs' lk ch own' ∧ shape ch = ich k sh' ∧ LfuOk kvs' lk ch) := by
  have sizes : ∀ {lk : List (Int × Value)} {ch : List Lk}, MidOk kvs' lk ch k → lk.length ≤ 61 ∧ (valueAt lk k).isSome = false := fun M => by
    have h1 := M.lks.length_eq
    have h2 := M.kks.length_eq
    rw [List.length_append, List.length_map] at h2
    rw [List.length_map] at h1
    simp only [List.length_cons, List.length_nil] at h2
    refine ⟨by omega, ?_⟩
    cases e : (valueAt _ k).isSome with
    | false => rfl
    | true => exact absurd (M.lks.mem_iff.mp (valueAt_mem.mp e)) M.no
  cases sh' with
  | nil =>
    refine (lfu_set_empty (w := w) (a := a) (da := da) (dd := dd) (ld := ld) (r := r) (mx := mx) (k := k) (t := t) (v := v) (PQ := fun kvs lk => kvs = kvs' ∧ MidOk kvs' lk [] k) (S0.ex ?_)).ex ?_
    · rintro r' o ⟨rfl, lk, ch, I, hs, M⟩
      obtain rfl : ch = [] := by cases ch with | nil => rfl | cons n c => cases hs
      exact ⟨rfl, kvs', lk, I, (sizes M).2, by have := (sizes M).1; omega, rfl, M⟩
    · rintro r' o ⟨⟨rfl, kvs, lk, y, yd, yk, ⟨rfl, M⟩, I⟩⟩
      refine ⟨rfl, _, _, I, rfl, M.fin rfl ?_ ?_⟩
      · intro n hn k' hk'
        rw [List.mem_singleton] at hn
        subst hn
        rw [List.mem_singleton.mp hk']
        exact valueAt_stored _ _ _
      · intro p hp
        obtain ⟨m, hm, rfl⟩ := List.mem_map.mp hp
        rw [List.mem_singleton] at hm
        subst hm
        exact ⟨by simp, Int.le_refl _⟩
  | cons q sh' =>
    obtain ⟨c, ks⟩ := q
    by_cases hc : c = 1
    · refine (lfu_set_first (w := w) (a := a) (da := da) (dd := dd) (ld := ld) (r := r) (mx := mx) (k := k) (t := t) (v := v) (PQ := fun kvs lk n ch => kvs = kvs' ∧ n.c = 1 ∧ shape (n :: ch) = (c, ks) :: sh' ∧ MidOk kvs' lk (n :: ch) k) (S0.ex ?_)).ex ?_
      · rintro r' o ⟨rfl, lk, ch, I, hs, M⟩
        cases ch with
        | nil => cases hs
        | cons n ch =>
          have h1 : n.c = c := (Prod.mk.inj (List.cons.inj hs).1).1
          have h2 := M.kks.length_eq
          rw [List.length_append, List.length_map, shape_cons, keysOf_cons, List.length_append] at h2
          dsimp only at h2
          exact ⟨rfl, kvs', lk, n, ch, I, h1.trans hc, (sizes M).2, by have := (sizes M).1; omega, by omega, fun q => M.no (by rw [shape_cons, keysOf_cons]; exact List.mem_append_left _ q), rfl, h1.trans hc, hs, M⟩
      · rintro r' o ⟨⟨rfl, kvs, lk, n, ch, ⟨rfl, hn1, hs, M⟩, I⟩⟩
        have hsh : shape (⟨n.l, n.ld, n.kd, n.c, n.ks ++ [k]⟩ :: ch) = ich k (shape (n :: ch)) := by
          rw [shape_cons, shape_cons, ich, if_pos hn1]
        refine ⟨rfl, _, _, I, hsh.trans (by rw [hs]), M.fin hsh ?_ ?_⟩
        · intro m hm k' hk'
          rcases List.mem_cons.mp hm with rfl | hm
          · rcases List.mem_append.mp hk' with q | q
            · rw [valueAt_stored', if_neg fun e => M.no (by rw [shape_cons, keysOf_cons, ← e]; exact List.mem_append_left _ q)]
              exact M.lnk n (by simp) k' q
            · rw [List.mem_singleton.mp q]; exact valueAt_stored _ _ _
          · rw [valueAt_stored', if_neg fun e => M.no (by rw [shape_cons, keysOf_cons, ← e]; exact List.mem_append_right _ (mem_keysOf.mpr ⟨(m.c, m.ks), List.mem_map_of_mem hm, hk'⟩))]
            exact M.lnk m (by simp [hm]) k' hk'
        · intro p hp
          rcases List.mem_cons.mp hp with rfl | hp
          · exact ⟨by simp, by show 1 ≤ n.c; omega⟩
          · exact M.wf.ne p (by rw [shape_cons]; exact .tail _ hp)
    · refine (lfu_set_mid (w := w) (a := a) (da := da) (dd := dd) (ld := ld) (r := r) (mx := mx) (k := k) (t := t) (v := v) (PQ := fun kvs lk n ch => kvs = kvs' ∧ n.c ≠ 1 ∧ shape (n :: ch) = (c, ks) :: sh' ∧ MidOk kvs' lk (n :: ch) k) (S0.ex ?_)).ex ?_
      · rintro r' o ⟨rfl, lk, ch, I, hs, M⟩
        cases ch with
        | nil => cases hs
        | cons n ch =>
          have h1 : n.c = c := (Prod.mk.inj (List.cons.inj hs).1).1
          exact ⟨rfl, kvs', lk, n, ch, I, h1 ▸ hc, (sizes M).2, by have := (sizes M).1; omega, rfl, h1 ▸ hc, hs, M⟩
      · rintro r' o ⟨⟨rfl, kvs, lk, n, ch, y, yd, yk, ⟨rfl, hn1, hs, M⟩, I⟩⟩
        have hsh : shape (⟨y, yd, yk, 1, [k]⟩ :: n :: ch) = ich k (shape (n :: ch)) := by
          rw [shape_cons, shape_cons, ich, if_neg hn1]
        refine ⟨rfl, _, _, I, hsh.trans (by rw [hs]), M.fin hsh ?_ ?_⟩
        · intro m hm k' hk'
          rcases List.mem_cons.mp hm with rfl | hm
          · rw [List.mem_singleton.mp hk']; exact valueAt_stored _ _ _
          · rw [valueAt_stored', if_neg fun e => M.no (by rw [← e]; exact mem_keysOf.mpr ⟨(m.c, m.ks), List.mem_map_of_mem hm, hk'⟩)]
            exact M.lnk m hm k' hk'
        · intro p hp
          rcases List.mem_cons.mp hp with rfl | hp
          · exact ⟨by simp, Int.le_refl _⟩
          · exact M.wf.ne p hp
end H
end
section
theorem is_mem {kvs : List (Int × Value)} {k : Int} : (valueAt kvs k).isSome = true ↔ k ∈ kvs.map (·.1) := valueAt_mem
section H
variable {w : World} {a da dd ld r : Nat} {mx : Int} {kvs lk : List (Int × Value)} {own : List (Addr × Obj)} {k k0 : Int} {t t0 tk : Tok} {ch : List Lk} {v v0 : Value} {sh : Sh}
theorem LfuOk.stored_old (O : LfuOk kvs lk ch) (hv : (valueAt kvs k).isSome = true) : LfuOk (stored kvs k v) lk ch :=
  ⟨O.lnk, O.lks, by rw [stored_keys_old (is_mem.mp hv)]; exact O.kks, O.wf⟩
theorem LfuOk.mid (O : LfuOk kvs lk ch) (hv : (valueAt kvs k).isSome = false) : MidOk (stored kvs k v) lk ch k := by
  have hn : k ∉ kvs.map (·.1) := fun q => by rw [is_mem.mpr q] at hv; cases hv
  exact ⟨O.lnk, O.lks, by rw [stored_keys_new hn]; exact O.kks.append_right [k], O.wf, fun q => hn (O.kks.mem_iff.mpr q)⟩
theorem h_set_old (I : LfuIs w a da dd ld r mx kvs lk ch own) (O : LfuOk kvs lk ch) (hv : (valueAt kvs k).isSome = true) (hz : kvs.length ≤ 62) (hmx : 1 ≤ mx) :
    Does w 550 4680 947 [.ref a, .int k t, v] own (fun r' own' => r' = .none ∧ ∃ lk' ch', LfuIs w a da dd ld r mx (stored kvs k v) lk' ch' own' ∧ shape ch' = tch k (shape ch) ∧ LfuOk (stored kvs k v) lk' ch') := by
  obtain ⟨ob, o3, rest, rfl, B, d3, lo3, ap, back⟩ := I.open
  have O' : LfuOk (stored kvs k v) lk ch := O.stored_old hv
  have hz' : (stored kvs k v).length ≤ 62 := by have := len_stored_old (v := v) hv; omega
  have hk : k ∈ keysOf (shape ch) := O.mem.mp hv
  have hl : (valueAt lk k).isSome = true := valueAt_mem.mpr (O.lks.mem_iff.mpr hk)
  have S0 := ((lfu_set0_old (t := t) (v := v) B hv (by omega) hmx).dp (D' := 560) (U' := 4690) (by omega) (by omega)).frame (own := ob ++ (ld, o3) :: rest) (rest := (ld, o3) :: rest) (fun p h => h) ap
  refine (lfu_set_touch (w := w) (a := a) (da := da) (dd := dd) (ld := ld) (r := r) (mx := mx) (k := k) (t := t) (v := v) (PT := fun r' own' => r' = .none ∧ ∃ lk' ch', LfuIs w a da dd ld r mx (stored kvs k v) lk' ch' own' ∧ shape ch' = tch k (shape ch) ∧ LfuOk (stored kvs k v) lk' ch') (S0.ex ?_)).ex ?_
  · rintro r' o ⟨ob', rfl, ⟨rfl, B'⟩, -⟩
    exact ⟨rfl, _, _, _, back _ _ B', hl, h_touch (back _ _ B') O' hk hz'⟩
  · rintro r' o ⟨rfl, v', h⟩
    exact ⟨rfl, h.2⟩
theorem h_set_new (I : LfuIs w a da dd ld r mx kvs lk ch own) (O : LfuOk kvs lk ch) (hv : (valueAt kvs k).isSome = false) (hz : kvs.length ≤ 61) (hmx : (kvs.length : Int) < mx) :
    Does w 550 4680 947 [.ref a, .int k t, v] own (fun r' own' => r' = .none ∧ ∃ lk' ch', LfuIs w a da dd ld r mx (stored kvs k v) lk' ch' own' ∧ shape ch' = ich k (shape ch) ∧ LfuOk (stored kvs k v) lk' ch') := by
  obtain ⟨ob, o3, rest, rfl, B, d3, lo3, ap, back⟩ := I.open
  have hz' : (stored kvs k v).length ≤ 62 := by have := len_stored_new (v := v) hv; omega
  have S0 := ((lfu_set0_new (t := t) (v := v) B hv (by omega) hmx).dp (D' := 560) (U' := 4690) (by omega) (by omega)).frame (own := ob ++ (ld, o3) :: rest) (rest := (ld, o3) :: rest) (fun p h => h) ap
  refine h_set_ins hz' (S0.ex ?_)
  rintro r' o ⟨ob', rfl, ⟨rfl, B'⟩, -⟩
  exact ⟨rfl, _, _, back _ _ B', rfl, O.mid hv⟩
theorem h_len (I : LfuIs w a da dd ld r mx kvs lk ch own) (hz : kvs.length ≤ 64) :
    Does w 600 5000 770 [.ref a] own (fun r' own' => (∃ tk, r' = .int kvs.length tk) ∧ own' = own) := by
  obtain ⟨ob, o3, rest, rfl, B, d3, lo3, ap, back⟩ := I.open
  refine ((lfu_len B hz).frame (own := ob ++ (ld, o3) :: rest) (rest := (ld, o3) :: rest) (fun p h => h) ap).ex ?_
  rintro r' o ⟨ob', rfl, ⟨h, rfl⟩, -⟩
  exact ⟨h, rfl⟩
theorem h_contains (I : LfuIs w a da dd ld r mx kvs lk ch own) :
    Does w 600 5000 749 [.ref a, .int k t] own (fun r' own' => r' = .bool (valueAt kvs k).isSome ∧ own' = own) := by
  obtain ⟨ob, o3, rest, rfl, B, d3, lo3, ap, back⟩ := I.open
  refine ((lfu_contains B).frame (own := ob ++ (ld, o3) :: rest) (rest := (ld, o3) :: rest) (fun p h => h) ap).ex ?_
  rintro r' o ⟨ob', rfl, ⟨h, rfl⟩, -⟩
  exact ⟨h, rfl⟩
theorem h_iter (I : LfuIs w a da dd ld r mx kvs lk ch own) :
    Does w 600 5000 763 [.ref a] own (fun r' own' => ∃ I oI ep dd o1, r' = .ref I ∧ own' = (I, oI) :: own ∧ (dd, o1) ∈ own ∧ KdkIter oI dd 0 kvs.length ep ∧ KdkAt (PySem.intKind lawProg w) o1 kvs ep) := by
  obtain ⟨ob, o3, rest, rfl, B, d3, lo3, ap, back⟩ := I.open
  refine ((lfu_iter B).frame (own := ob ++ (ld, o3) :: rest) (rest := (ld, o3) :: rest) (fun p h => h) ap).ex ?_
  rintro r' o ⟨ob', rfl, ⟨I, oI, ep, o1, e, rfl, hm, h1, h2⟩, -⟩
  exact ⟨I, oI, ep, dd, o1, e, rfl, List.mem_append_left _ hm, h1, h2⟩
theorem h_set_full {c : Int} {ks : List Int} (I : LfuIs w a da dd ld r mx kvs lk ch own) (O : LfuOk kvs lk ch) (hs : shape ch = (c, k0 :: ks) :: sh) (hv0 : valueAt kvs k0 = some v0) (hv : (valueAt kvs k).isSome = false) (hz : kvs.length ≤ 61) (hmx : (kvs.length : Int) = mx) (hmx1 : 1 ≤ mx) :
    Does w 550 4680 947 [.ref a, .int k t, v] own (fun r' own' => r' = .none ∧ ∃ lk' ch', LfuIs w a da dd ld r mx (stored (without kvs k0) k v) lk' ch' own' ∧ shape ch' = ich k (dch k0 (shape ch)) ∧ LfuOk (stored (without kvs k0) k v) lk' ch') := by
  have hnd : (kvs.map (·.1)).Nodup := (List.Perm.nodup_iff O.kks).mpr O.wf.nd
  have hlw : (without kvs k0).length + 1 = kvs.length := len_without_nodup hnd (is_mem.mp (is_of hv0))
  have hv' : (valueAt (without kvs k0) k).isSome = false := valueAt_without_none hv
  have hz' : (stored (without kvs k0) k v).length ≤ 62 := by have := len_stored_new (v := v) hv'; omega
  have Sp := (h_popitem I O hs hv0 (by omega)).ex (P' := fun r' own' => ∃ T tk own2, r' = .ref T ∧ own' = (T, { cls := .type "tuple", data := .seq #[.int k0 tk, v0] }) :: own2 ∧
      ∃ n t1 t2 t3 t4 t5 t6 t7 o1 rest', own2 = lfuOwn3 w.params a da dd ld r n mx t1 t2 t3 t4 t5 t6 t7 o1 ++ rest' ∧ n = (without kvs k0).length ∧ o1.IsDictOf (PySem.intKind lawProg w) (without kvs k0) ∧ (dd == sysModules) = false ∧ Apart (lfuOwn3 w.params a da dd ld r n mx t1 t2 t3 t4 t5 t6 t7 o1) rest' ∧
        (fun rest' => (∃ lk' ch', shape ch' = dch k0 (shape ch) ∧ LfuOk (without kvs k0) lk' ch' ∧ ∀ kvs' ob', LfuB w a da dd ld r mx kvs' ob' → LfuIs w a da dd ld r mx kvs' lk' ch' (ob' ++ rest'))) rest') (by
    rintro r' o ⟨T, tk, own2, rfl, rfl, lk', ch', I', hs', O'⟩
    have hn := I'
    obtain ⟨ob, o3, rest, rfl, B', d3, lo3, ap, back⟩ := I'.open
    obtain ⟨n0, t1, t2, t3, t4, t5, t6, t7, o1, rfl, hn0, d1, lo1, hN3⟩ := B'
    exact ⟨T, tk, _, rfl, rfl, n0, t1, t2, t3, t4, t5, t6, t7, o1, _, rfl, hn0, d1, lo1, ap, lk', ch', hs', O', back⟩)
  have I0 := I
  obtain ⟨ob, o3, rest, rfl, B, d3, lo3, ap, back⟩ := I.open
  have S0 := lfu_set0_full (k := k) (t := t) (v := v) B hv hv' (by omega) hmx hmx1 (by omega) ap Sp
  have hB : Nas [a, da, dd] := by obtain ⟨_, _, _, _, _, _, _, _, _, rfl, _, _, _, h⟩ := B; exact h
  refine (h_set_ins (sh' := dch k0 (shape ch)) hz' ((S0.dp (D' := 560) (U' := 4690) (by omega) (by omega)).ex ?_)).ex fun r' o h => h
  rintro r' o ⟨rfl, n, t1, t2, t3, t4, t5, t6, t7, o1, rest', rfl, hn, d1, lo1, ap', lk', ch', hs', O', back'⟩
  exact ⟨rfl, lk', ch', back' _ _ (LfuB.mk hn d1 lo1 hB), hs', O'.mid hv'⟩
end H
end
section
theorem leaveS_cons {g : Heap} {R : Value → List (Addr × Obj) → Shared → Prop} {v : Value} {s' : Shared} {L' : Addr} {m' : Str → Option Value} {own' : List (Addr × Obj)} (F : Fr g L' s'.heap m') (N : News g L' s'.heap own') (h : R v own' s') : LeaveS g R v s' := leaveS_ F N h
section
variable {w : World} {a da dd od rr : Nat} {mx n n1 : Int} {t t0 t1 t2 t3 t4 t5 t6 t7 : Tok} {k : Int} {v : Value} {rest : List (Addr × Obj)} {P : Value → List (Addr × Obj) → Prop} {P0 : List (Addr × Obj) → Prop}
set_option maxHeartbeats 4000000 in
theorem lru_use1 (S : ∀ t', Does w 550 4780 778 [.ref a, .int k t, .str "none" t'] ((a, instObj 1044 da) :: (da, dictOf [ent w.params "_Cache__data" t1 (.ref dd), ent w.params "_Cache__currsize" t2 (.int n t3), ent w.params "_Cache__maxsize" t4 (.int mx t5), ent w.params "_LRUCache__order" t6 (.ref od)] 4) :: rest) P) :
    Does w 540 4500 1053 [.ref a, .int 1 t0, .int k t, v] ((a, instObj 1044 da) :: (da, dictOf [ent w.params "_Cache__data" t1 (.ref dd), ent w.params "_Cache__currsize" t2 (.int n t3), ent w.params "_Cache__maxsize" t4 (.int mx t5), ent w.params "_LRUCache__order" t6 (.ref od)] 4) :: rest)
      (fun r o => Done (∃ R x o2, r = .ref R ∧ o = (R, listOf #[x] 0) :: o2 ∧ P x o2)) := by
  have pt20 : Part 20 := .mk
  w_on
  walk_at "mine intro"
  k_steps
  k_dflt (refine' Does.use (S _) ?F ?X ?N ?T ?hD ?hU ?_; (case F => k_asm); (case X => k_asm); (case T => k_asm); (case N => k_asm); (case hD => walk_at "mine room"); (case hU => walk_at "mine room"))
  intro v' own' h' tk' F' N' P'
  dsimp only
  k_sweep
  k_steps
  exact ⟨_, _, _, rfl, rfl, P'⟩
set_option maxHeartbeats 4000000 in
theorem lru_use2 (S : ∀ t', Does w 550 4770 786 [.ref a, .int k t, .str "none" t'] ((a, instObj 1044 da) :: (da, dictOf [ent w.params "_Cache__data" t1 (.ref dd), ent w.params "_Cache__currsize" t2 (.int n t3), ent w.params "_Cache__maxsize" t4 (.int mx t5), ent w.params "_LRUCache__order" t6 (.ref od)] 4) :: rest) P) :
    Does w 540 4500 1053 [.ref a, .int 2 t0, .int k t, v] ((a, instObj 1044 da) :: (da, dictOf [ent w.params "_Cache__data" t1 (.ref dd), ent w.params "_Cache__currsize" t2 (.int n t3), ent w.params "_Cache__maxsize" t4 (.int mx t5), ent w.params "_LRUCache__order" t6 (.ref od)] 4) :: rest)
      (fun r o => Done (∃ R x o2, r = .ref R ∧ o = (R, listOf #[x] 0) :: o2 ∧ P x o2)) := by
  have pt20 : Part 20 := .mk
  w_on
  walk_at "mine intro"
  k_steps
  k_dflt (refine' Does.use (S _) ?F ?X ?N ?T ?hD ?hU ?_; (case F => k_asm); (case X => k_asm); (case T => k_asm); (case N => k_asm); (case hD => walk_at "mine room"); (case hU => walk_at "mine room"))
  intro v' own' h' tk' F' N' P'
  dsimp only
  k_sweep
  k_steps
  exact ⟨_, _, _, rfl, rfl, P'⟩
set_option maxHeartbeats 4000000 in
theorem lru_use3n (Sl : Does w 600 5000 770 [.ref a] ((a, instObj 1044 da) :: (da, dictOf [ent w.params "_Cache__data" t1 (.ref dd), ent w.params "_Cache__currsize" t2 (.int n t3), ent w.params "_Cache__maxsize" t4 (.int mx t5), ent w.params "_LRUCache__order" t6 (.ref od)] 4) :: rest) (fun r o => (∃ tk, r = .int 0 tk) ∧ o = ((a, instObj 1044 da) :: (da, dictOf [ent w.params "_Cache__data" t1 (.ref dd), ent w.params "_Cache__currsize" t2 (.int n t3), ent w.params "_Cache__maxsize" t4 (.int mx t5), ent w.params "_LRUCache__order" t6 (.ref od)] 4) :: rest))) :
    Does w 540 4500 1053 [.ref a, .int 3 t0, .int k t, v] ((a, instObj 1044 da) :: (da, dictOf [ent w.params "_Cache__data" t1 (.ref dd), ent w.params "_Cache__currsize" t2 (.int n t3), ent w.params "_Cache__maxsize" t4 (.int mx t5), ent w.params "_LRUCache__order" t6 (.ref od)] 4) :: rest)
      (fun r o => Done (∃ R, r = .ref R ∧ o = (R, listOf #[] 0) :: ((a, instObj 1044 da) :: (da, dictOf [ent w.params "_Cache__data" t1 (.ref dd), ent w.params "_Cache__currsize" t2 (.int n t3), ent w.params "_Cache__maxsize" t4 (.int mx t5), ent w.params "_LRUCache__order" t6 (.ref od)] 4) :: rest))) := by
  have pt20 : Part 20 := .mk
  w_on
  walk_at "mine intro"
  k_steps
  k_dflt (refine' Does.use Sl ?F ?X ?N ?T ?hD ?hU ?_; (case F => k_asm); (case X => k_asm); (case T => k_asm); (case N => k_asm); (case hD => walk_at "mine room"); (case hU => walk_at "mine room"))
  intro v' own' h' tk' F' N' P'
  obtain ⟨⟨tl, rfl⟩, rfl⟩ := P'
  dsimp only [PySem.W.LenBack]
  refine ⟨⟨by omega, by omega⟩, ?_⟩
  (try dsimp only)
  k_sweep
  k_steps
  exact ⟨_, rfl, rfl⟩
set_option maxHeartbeats 4000000 in
theorem lru_use3 (hn : 0 < n1) (hn2 : n1 ≤ 64) (Sl : Does w 600 5000 770 [.ref a] ((a, instObj 1044 da) :: (da, dictOf [ent w.params "_Cache__data" t1 (.ref dd), ent w.params "_Cache__currsize" t2 (.int n t3), ent w.params "_Cache__maxsize" t4 (.int mx t5), ent w.params "_LRUCache__order" t6 (.ref od)] 4) :: rest) (fun r o => (∃ tk, r = .int n1 tk) ∧ o = ((a, instObj 1044 da) :: (da, dictOf [ent w.params "_Cache__data" t1 (.ref dd), ent w.params "_Cache__currsize" t2 (.int n t3), ent w.params "_Cache__maxsize" t4 (.int mx t5), ent w.params "_LRUCache__order" t6 (.ref od)] 4) :: rest))) (Sp : Does w 550 4770 1027 [.ref a] ((a, instObj 1044 da) :: (da, dictOf [ent w.params "_Cache__data" t1 (.ref dd), ent w.params "_Cache__currsize" t2 (.int n t3), ent w.params "_Cache__maxsize" t4 (.int mx t5), ent w.params "_LRUCache__order" t6 (.ref od)] 4) :: rest) P) :
    Does w 540 4500 1053 [.ref a, .int 3 t0, .int k t, v] ((a, instObj 1044 da) :: (da, dictOf [ent w.params "_Cache__data" t1 (.ref dd), ent w.params "_Cache__currsize" t2 (.int n t3), ent w.params "_Cache__maxsize" t4 (.int mx t5), ent w.params "_LRUCache__order" t6 (.ref od)] 4) :: rest)
      (fun r o => Done (∃ R x o2, r = .ref R ∧ o = (R, listOf #[x] 0) :: o2 ∧ P x o2)) := by
  have pt20 : Part 20 := .mk
  w_on
  walk_at "mine intro"
  k_steps
  k_dflt (refine' Does.use Sl ?F ?X ?N ?T ?hD ?hU ?_; (case F => k_asm); (case X => k_asm); (case T => k_asm); (case N => k_asm); (case hD => walk_at "mine room"); (case hU => walk_at "mine room"))
  intro v' own' h' tk' F' N' P'
  obtain ⟨⟨tl, rfl⟩, rfl⟩ := P'
  dsimp only [PySem.W.LenBack]
  refine ⟨⟨by omega, by omega⟩, ?_⟩
  (try dsimp only)
  k_sweep
  k_steps
  k_dflt (refine' Does.use Sp ?F ?X ?N ?T ?hD ?hU ?_; (case F => k_asm); (case X => k_asm); (case T => k_asm); (case N => k_asm); (case hD => walk_at "mine room"); (case hU => walk_at "mine room"))
  intro v' own' h' tk' F' N' P'
  dsimp only
  k_sweep
  k_steps
  exact ⟨_, _, _, rfl, rfl, P'⟩
set_option maxHeartbeats 4000000 in
theorem fifo_use0 (S : Does w 550 4600 857 [.ref a, .int k t, v] ((a, instObj 882 da) :: (da, dictOf [ent w.params "_Cache__data" t1 (.ref dd), ent w.params "_Cache__currsize" t2 (.int n t3), ent w.params "_Cache__maxsize" t4 (.int mx t5), ent w.params "_FIFOCache__order" t6 (.ref od)] 4) :: rest) (fun r o => r = .none ∧ P0 o)) :
    Does w 540 4500 1053 [.ref a, .int 0 t0, .int k t, v] ((a, instObj 882 da) :: (da, dictOf [ent w.params "_Cache__data" t1 (.ref dd), ent w.params "_Cache__currsize" t2 (.int n t3), ent w.params "_Cache__maxsize" t4 (.int mx t5), ent w.params "_FIFOCache__order" t6 (.ref od)] 4) :: rest)
      (fun r o => Done (∃ R o2, r = .ref R ∧ o = (R, listOf #[] 0) :: o2 ∧ P0 o2)) := by
  have pt20 : Part 20 := .mk
  w_on
  walk_at "mine intro"
  k_steps
  k_dflt (refine' Does.use S ?F ?X ?N ?T ?hD ?hU ?_; (case F => k_asm); (case X => k_asm); (case T => k_asm); (case N => k_asm); (case hD => walk_at "mine room"); (case hU => walk_at "mine room"))
  intro v' own' h' tk' F' N' P'
  obtain ⟨rfl, P''⟩ := P'
  dsimp only
  k_sweep
  k_steps
  exact ⟨_, _, rfl, rfl, P''⟩
set_option maxHeartbeats 4000000 in
theorem fifo_use1 (S : ∀ t', Does w 550 4780 778 [.ref a, .int k t, .str "none" t'] ((a, instObj 882 da) :: (da, dictOf [ent w.params "_Cache__data" t1 (.ref dd), ent w.params "_Cache__currsize" t2 (.int n t3), ent w.params "_Cache__maxsize" t4 (.int mx t5), ent w.params "_FIFOCache__order" t6 (.ref od)] 4) :: rest) P) :
    Does w 540 4500 1053 [.ref a, .int 1 t0, .int k t, v] ((a, instObj 882 da) :: (da, dictOf [ent w.params "_Cache__data" t1 (.ref dd), ent w.params "_Cache__currsize" t2 (.int n t3), ent w.params "_Cache__maxsize" t4 (.int mx t5), ent w.params "_FIFOCache__order" t6 (.ref od)] 4) :: rest)
      (fun r o => Done (∃ R x o2, r = .ref R ∧ o = (R, listOf #[x] 0) :: o2 ∧ P x o2)) := by
  have pt20 : Part 20 := .mk
  w_on
  walk_at "mine intro"
  k_steps
  k_dflt (refine' Does.use (S _) ?F ?X ?N ?T ?hD ?hU ?_; (case F => k_asm); (case X => k_asm); (case T => k_asm); (case N => k_asm); (case hD => walk_at "mine room"); (case hU => walk_at "mine room"))
  intro v' own' h' tk' F' N' P'
  dsimp only
  k_sweep
  k_steps
  exact ⟨_, _, _, rfl, rfl, P'⟩
set_option maxHeartbeats 4000000 in
theorem fifo_use2 (S : ∀ t', Does w 550 4770 786 [.ref a, .int k t, .str "none" t'] ((a, instObj 882 da) :: (da, dictOf [ent w.params "_Cache__data" t1 (.ref dd), ent w.params "_Cache__currsize" t2 (.int n t3), ent w.params "_Cache__maxsize" t4 (.int mx t5), ent w.params "_FIFOCache__order" t6 (.ref od)] 4) :: rest) P) :
    Does w 540 4500 1053 [.ref a, .int 2 t0, .int k t, v] ((a, instObj 882 da) :: (da, dictOf [ent w.params "_Cache__data" t1 (.ref dd), ent w.params "_Cache__currsize" t2 (.int n t3), ent w.params "_Cache__maxsize" t4 (.int mx t5), ent w.params "_FIFOCache__order" t6 (.ref od)] 4) :: rest)
      (fun r o => Done (∃ R x o2, r = .ref R ∧ o = (R, listOf #[x] 0) :: o2 ∧ P x o2)) := by
  have pt20 : Part 20 := .mk
  w_on
  walk_at "mine intro"
  k_steps
  k_dflt (refine' Does.use (S _) ?F ?X ?N ?T ?hD ?hU ?_; (case F => k_asm); (case X => k_asm); (case T => k_asm); (case N => k_asm); (case hD => walk_at "mine room"); (case hU => walk_at "mine room"))
  intro v' own' h' tk' F' N' P'
  dsimp only
  k_sweep
  k_steps
  exact ⟨_, _, _, rfl, rfl, P'⟩
set_option maxHeartbeats 4000000 in
theorem fifo_use3n (Sl : Does w 600 5000 770 [.ref a] ((a, instObj 882 da) :: (da, dictOf [ent w.params "_Cache__data" t1 (.ref dd), ent w.params "_Cache__currsize" t2 (.int n t3), ent w.params "_Cache__maxsize" t4 (.int mx t5), ent w.params "_FIFOCache__order" t6 (.ref od)] 4) :: rest) (fun r o => (∃ tk, r = .int 0 tk) ∧ o = ((a, instObj 882 da) :: (da, dictOf [ent w.params "_Cache__data" t1 (.ref dd), ent w.params "_Cache__currsize" t2 (.int n t3), ent w.params "_Cache__maxsize" t4 (.int mx t5), ent w.params "_FIFOCache__order" t6 (.ref od)] 4) :: rest))) :
    Does w 540 4500 1053 [.ref a, .int 3 t0, .int k t, v] ((a, instObj 882 da) :: (da, dictOf [ent w.params "_Cache__data" t1 (.ref dd), ent w.params "_Cache__currsize" t2 (.int n t3), ent w.params "_Cache__maxsize" t4 (.int mx t5), ent w.params "_FIFOCache__order" t6 (.ref od)] 4) :: rest)
      (fun r o => Done (∃ R, r = .ref R ∧ o = (R, listOf #[] 0) :: ((a, instObj 882 da) :: (da, dictOf [ent w.params "_Cache__data" t1 (.ref dd), ent w.params "_Cache__currsize" t2 (.int n t3), ent w.params "_Cache__maxsize" t4 (.int mx t5), ent w.params "_FIFOCache__order" t6 (.ref od)] 4) :: rest))) := by
  have pt20 : Part 20 := .mk
  w_on
  walk_at "mine intro"
  k_steps
  k_dflt (refine' Does.use Sl ?F ?X ?N ?T ?hD ?hU ?_; (case F => k_asm); (case X => k_asm); (case T => k_asm); (case N => k_asm); (case hD => walk_at "mine room"); (case hU => walk_at "mine room"))
  intro v' own' h' tk' F' N' P'
  obtain ⟨⟨tl, rfl⟩, rfl⟩ := P'
  dsimp only [PySem.W.LenBack]
  refine ⟨⟨by omega, by omega⟩, ?_⟩
  (try dsimp only)
  k_sweep
  k_steps
  exact ⟨_, rfl, rfl⟩
set_option maxHeartbeats 4000000 in
theorem fifo_use3 (hn : 0 < n1) (hn2 : n1 ≤ 64) (Sl : Does w 600 5000 770 [.ref a] ((a, instObj 882 da) :: (da, dictOf [ent w.params "_Cache__data" t1 (.ref dd), ent w.params "_Cache__currsize" t2 (.int n t3), ent w.params "_Cache__maxsize" t4 (.int mx t5), ent w.params "_FIFOCache__order" t6 (.ref od)] 4) :: rest) (fun r o => (∃ tk, r = .int n1 tk) ∧ o = ((a, instObj 882 da) :: (da, dictOf [ent w.params "_Cache__data" t1 (.ref dd), ent w.params "_Cache__currsize" t2 (.int n t3), ent w.params "_Cache__maxsize" t4 (.int mx t5), ent w.params "_FIFOCache__order" t6 (.ref od)] 4) :: rest))) (Sp : Does w 550 4770 872 [.ref a] ((a, instObj 882 da) :: (da, dictOf [ent w.params "_Cache__data" t1 (.ref dd), ent w.params "_Cache__currsize" t2 (.int n t3), ent w.params "_Cache__maxsize" t4 (.int mx t5), ent w.params "_FIFOCache__order" t6 (.ref od)] 4) :: rest) P) :
    Does w 540 4500 1053 [.ref a, .int 3 t0, .int k t, v] ((a, instObj 882 da) :: (da, dictOf [ent w.params "_Cache__data" t1 (.ref dd), ent w.params "_Cache__currsize" t2 (.int n t3), ent w.params "_Cache__maxsize" t4 (.int mx t5), ent w.params "_FIFOCache__order" t6 (.ref od)] 4) :: rest)
      (fun r o => Done (∃ R x o2, r = .ref R ∧ o = (R, listOf #[x] 0) :: o2 ∧ P x o2)) := by
  have pt20 : Part 20 := .mk
  w_on
  walk_at "mine intro"
  k_steps
  k_dflt (refine' Does.use Sl ?F ?X ?N ?T ?hD ?hU ?_; (case F => k_asm); (case X => k_asm); (case T => k_asm); (case N => k_asm); (case hD => walk_at "mine room"); (case hU => walk_at "mine room"))
  intro v' own' h' tk' F' N' P'
  obtain ⟨⟨tl, rfl⟩, rfl⟩ := P'
  dsimp only [PySem.W.LenBack]
  refine ⟨⟨by omega, by omega⟩, ?_⟩
  (try dsimp only)
  k_sweep
  k_steps
  k_dflt (refine' Does.use Sp ?F ?X ?N ?T ?hD ?hU ?_; (case F => k_asm); (case X => k_asm); (case T => k_asm); (case N => k_asm); (case hD => walk_at "mine room"); (case hU => walk_at "mine room"))
  intro v' own' h' tk' F' N' P'
  dsimp only
  k_sweep
  k_steps
  exact ⟨_, _, _, rfl, rfl, P'⟩
set_option maxHeartbeats 4000000 in
theorem lfu_use0 (S : Does w 550 4600 947 [.ref a, .int k t, v] ((a, instObj 979 da) :: (da, dictOf [ent w.params "_Cache__data" t1 (.ref dd), ent w.params "_Cache__currsize" t2 (.int n t3), ent w.params "_Cache__maxsize" t4 (.int mx t5), ent w.params "_LFUCache__root" t6 (.ref rr), ent w.params "_LFUCache__links" t7 (.ref od)] 5) :: rest) (fun r o => r = .none ∧ P0 o)) :
    Does w 540 4500 1053 [.ref a, .int 0 t0, .int k t, v] ((a, instObj 979 da) :: (da, dictOf [ent w.params "_Cache__data" t1 (.ref dd), ent w.params "_Cache__currsize" t2 (.int n t3), ent w.params "_Cache__maxsize" t4 (.int mx t5), ent w.params "_LFUCache__root" t6 (.ref rr), ent w.params "_LFUCache__links" t7 (.ref od)] 5) :: rest)
      (fun r o => Done (∃ R o2, r = .ref R ∧ o = (R, listOf #[] 0) :: o2 ∧ P0 o2)) := by
  have pt20 : Part 20 := .mk
  w_on
  walk_at "mine intro"
  k_steps
  k_dflt (refine' Does.use S ?F ?X ?N ?T ?hD ?hU ?_; (case F => k_asm); (case X => k_asm); (case T => k_asm); (case N => k_asm); (case hD => walk_at "mine room"); (case hU => walk_at "mine room"))
  intro v' own' h' tk' F' N' P'
  obtain ⟨rfl, P''⟩ := P'
  dsimp only
  k_sweep
  k_steps
  exact ⟨_, _, rfl, rfl, P''⟩
set_option maxHeartbeats 4000000 in
theorem lfu_use1 (S : ∀ t', Does w 550 4780 778 [.ref a, .int k t, .str "none" t'] ((a, instObj 979 da) :: (da, dictOf [ent w.params "_Cache__data" t1 (.ref dd), ent w.params "_Cache__currsize" t2 (.int n t3), ent w.params "_Cache__maxsize" t4 (.int mx t5), ent w.params "_LFUCache__root" t6 (.ref rr), ent w.params "_LFUCache__links" t7 (.ref od)] 5) :: rest) P) :
    Does w 540 4500 1053 [.ref a, .int 1 t0, .int k t, v] ((a, instObj 979 da) :: (da, dictOf [ent w.params "_Cache__data" t1 (.ref dd), ent w.params "_Cache__currsize" t2 (.int n t3), ent w.params "_Cache__maxsize" t4 (.int mx t5), ent w.params "_LFUCache__root" t6 (.ref rr), ent w.params "_LFUCache__links" t7 (.ref od)] 5) :: rest)
      (fun r o => Done (∃ R x o2, r = .ref R ∧ o = (R, listOf #[x] 0) :: o2 ∧ P x o2)) := by
  have pt20 : Part 20 := .mk
  w_on
  walk_at "mine intro"
  k_steps
  k_dflt (refine' Does.use (S _) ?F ?X ?N ?T ?hD ?hU ?_; (case F => k_asm); (case X => k_asm); (case T => k_asm); (case N => k_asm); (case hD => walk_at "mine room"); (case hU => walk_at "mine room"))
  intro v' own' h' tk' F' N' P'
  dsimp only
  k_sweep
  k_steps
  exact ⟨_, _, _, rfl, rfl, P'⟩
set_option maxHeartbeats 4000000 in
theorem lfu_use2 (S : ∀ t', Does w 550 4770 786 [.ref a, .int k t, .str "none" t'] ((a, instObj 979 da) :: (da, dictOf [ent w.params "_Cache__data" t1 (.ref dd), ent w.params "_Cache__currsize" t2 (.int n t3), ent w.params "_Cache__maxsize" t4 (.int mx t5), ent w.params "_LFUCache__root" t6 (.ref rr), ent w.params "_LFUCache__links" t7 (.ref od)] 5) :: rest) P) :
    Does w 540 4500 1053 [.ref a, .int 2 t0, .int k t, v] ((a, instObj 979 da) :: (da, dictOf [ent w.params "_Cache__data" t1 (.ref dd), ent w.params "_Cache__currsize" t2 (.int n t3), ent w.params "_Cache__maxsize" t4 (.int mx t5), ent w.params "_LFUCache__root" t6 (.ref rr), ent w.params "_LFUCache__links" t7 (.ref od)] 5) :: rest)
      (fun r o => Done (∃ R x o2, r = .ref R ∧ o = (R, listOf #[x] 0) :: o2 ∧ P x o2)) := by
  have pt20 : Part 20 := .mk
  w_on
  walk_at "mine intro"
  k_steps
  k_dflt (refine' Does.use (S _) ?F ?X ?N ?T ?hD ?hU ?_; (case F => k_asm); (case X => k_asm); (case T => k_asm); (case N => k_asm); (case hD => walk_at "mine room"); (case hU => walk_at "mine room"))
  intro v' own' h' tk' F' N' P'
  dsimp only
  k_sweep
  k_steps
  exact ⟨_, _, _, rfl, rfl, P'⟩
set_option maxHeartbeats 4000000 in
theorem lfu_use3n (Sl : Does w 600 5000 770 [.ref a] ((a, instObj 979 da) :: (da, dictOf [ent w.params "_Cache__data" t1 (.ref dd), ent w.params "_Cache__currsize" t2 (.int n t3), ent w.params "_Cache__maxsize" t4 (.int mx t5), ent w.params "_LFUCache__root" t6 (.ref rr), ent w.params "_LFUCache__links" t7 (.ref od)] 5) :: rest) (fun r o => (∃ tk, r = .int 0 tk) ∧ o = ((a, instObj 979 da) :: (da, dictOf [ent w.params "_Cache__data" t1 (.ref dd), ent w.params "_Cache__currsize" t2 (.int n t3), ent w.params "_Cache__maxsize" t4 (.int mx t5), ent w.params "_LFUCache__root" t6 (.ref rr), ent w.params "_LFUCache__links" t7 (.ref od)] 5) :: rest))) :
    Does w 540 4500 1053 [.ref a, .int 3 t0, .int k t, v] ((a, instObj 979 da) :: (da, dictOf [ent w.params "_Cache__data" t1 (.ref dd), ent w.params "_Cache__currsize" t2 (.int n t3), ent w.params "_Cache__maxsize" t4 (.int mx t5), ent w.params "_LFUCache__root" t6 (.ref rr), ent w.params "_LFUCache__links" t7 (.ref od)] 5) :: rest)
      (fun r o => Done (∃ R, r = .ref R ∧ o = (R, listOf #[] 0) :: ((a, instObj 979 da) :: (da, dictOf [ent w.params "_Cache__data" t1 (.ref dd), ent w.params "_Cache__currsize" t2 (.int n t3), ent w.params "_Cache__maxsize" t4 (.int mx t5), ent w.params "_LFUCache__root" t6 (.ref rr), ent w.params "_LFUCache__links" t7 (.ref od)] 5) :: rest))) := by
  have pt20 : Part 20 := .mk
  w_on
  walk_at "mine intro"
  k_steps
  k_dflt (refine' Does.use Sl ?F ?X ?N ?T ?hD ?hU ?_; (case F => k_asm); (case X => k_asm); (case T => k_asm); (case N => k_asm); (case hD => walk_at "mine room"); (case hU => walk_at "mine room"))
  intro v' own' h' tk' F' N' P'
  obtain ⟨⟨tl, rfl⟩, rfl⟩ := P'
  dsimp only [PySem.W.LenBack]
  refine ⟨⟨by omega, by omega⟩, ?_⟩
  (try dsimp only)
  k_sweep
  k_steps
  exact ⟨_, rfl, rfl⟩
set_option maxHeartbeats 4000000 in
theorem lfu_use3 (hn : 0 < n1) (hn2 : n1 ≤ 64) (Sl : Does w 600 5000 770 [.ref a] ((a, instObj 979 da) :: (da, dictOf [ent w.params "_Cache__data" t1 (.ref dd), ent w.params "_Cache__currsize" t2 (.int n t3), ent w.params "_Cache__maxsize" t4 (.int mx t5), ent w.params "_LFUCache__root" t6 (.ref rr), ent w.params "_LFUCache__links" t7 (.ref od)] 5) :: rest) (fun r o => (∃ tk, r = .int n1 tk) ∧ o = ((a, instObj 979 da) :: (da, dictOf [ent w.params "_Cache__data" t1 (.ref dd), ent w.params "_Cache__currsize" t2 (.int n t3), ent w.params "_Cache__maxsize" t4 (.int mx t5), ent w.params "_LFUCache__root" t6 (.ref rr), ent w.params "_LFUCache__links" t7 (.ref od)] 5) :: rest))) (Sp : Does w 550 4770 962 [.ref a] ((a, instObj 979 da) :: (da, dictOf [ent w.params "_Cache__data" t1 (.ref dd), ent w.params "_Cache__currsize" t2 (.int n t3), ent w.params "_Cache__maxsize" t4 (.int mx t5), ent w.params "_LFUCache__root" t6 (.ref rr), ent w.params "_LFUCache__links" t7 (.ref od)] 5) :: rest) P) :
    Does w 540 4500 1053 [.ref a, .int 3 t0, .int k t, v] ((a, instObj 979 da) :: (da, dictOf [ent w.params "_Cache__data" t1 (.ref dd), ent w.params "_Cache__currsize" t2 (.int n t3), ent w.params "_Cache__maxsize" t4 (.int mx t5), ent w.params "_LFUCache__root" t6 (.ref rr), ent w.params "_LFUCache__links" t7 (.ref od)] 5) :: rest)
      (fun r o => Done (∃ R x o2, r = .ref R ∧ o = (R, listOf #[x] 0) :: o2 ∧ P x o2)) := by
  have pt20 : Part 20 := .mk
  w_on
  walk_at "mine intro"
  k_steps
  k_dflt (refine' Does.use Sl ?F ?X ?N ?T ?hD ?hU ?_; (case F => k_asm); (case X => k_asm); (case T => k_asm); (case N => k_asm); (case hD => walk_at "mine room"); (case hU => walk_at "mine room"))
  intro v' own' h' tk' F' N' P'
  obtain ⟨⟨tl, rfl⟩, rfl⟩ := P'
  dsimp only [PySem.W.LenBack]
  refine ⟨⟨by omega, by omega⟩, ?_⟩
  (try dsimp only)
  k_sweep
  k_steps
  k_dflt (refine' Does.use Sp ?F ?X ?N ?T ?hD ?hU ?_; (case F => k_asm); (case X => k_asm); (case T => k_asm); (case N => k_asm); (case hD => walk_at "mine room"); (case hU => walk_at "mine room"))
  intro v' own' h' tk' F' N' P'
  dsimp only
  k_sweep
  k_steps
  exact ⟨_, _, _, rfl, rfl, P'⟩
end
end
section
theorem apart_cons {x : Addr × Obj} {own rest : List (Addr × Obj)} (h : ∀ p ∈ rest, p.1 ≠ x.1) (ap : Apart own rest) : Apart (x :: own) rest := Apart.of fun p hp q => by
  rcases List.mem_cons.mp q with e | e
  · exact h p hp e
  · exact ap.at p hp e
section
variable {w : World} {a da dd od rr : Nat} {mx n n1 : Int} {t t0 t1 t2 t3 t4 t5 t6 t7 : Tok} {o1 o2 : Obj} {k : Int} {v : Value} {P0 : List (Addr × Obj) → Prop}
set_option maxHeartbeats 4000000 in
theorem lru_use0 (S : DoesF w 560 4600 1012 [.ref a, .int k t, v] (ordOwn w.params 1044 "_LRUCache__order" a da dd od n mx t1 t2 t3 t4 t5 t6 o1 o2) (fun r o => r = .none ∧ P0 o)) :
    DoesF w 540 4500 1053 [.ref a, .int 0 t0, .int k t, v] (ordOwn w.params 1044 "_LRUCache__order" a da dd od n mx t1 t2 t3 t4 t5 t6 o1 o2)
      (fun r o => Done (∃ R o2, r = .ref R ∧ o = (R, listOf #[] 0) :: o2 ∧ P0 o2)) := by
  have pt20 : Part 20 := .mk
  w_on
  walk_at "mine introF"
  k_steps
  k_dflt (refine' useF4 S ?F ?X ?N ?ap ?Fs ?T rfl rfl ?hD ?hU ?_; (case F => k_asm); (case X => k_asm); (case T => k_asm); (case N => k_asm); (case ap => assumption); (case Fs => assumption); (case hD => walk_at "mine room"); (case hU => walk_at "mine room"))
  intro v' own' frs' h' tk' F' N' ap2' SU' Fs' P'
  obtain ⟨rfl, P''⟩ := P'
  dsimp only
  k_sweep
  k_steps
  (with_reducible rename ∀ p ∈ own' ++ frs', _ => l1)
  k_dflt (refine' leaveF_ (own' := (_, _) :: own') ?F ?N ?ap ?SU ?Fs ?_; (case F => k_asm); (case N => k_asm); (case ap => exact apart_cons (fun p hp => Nat.ne_of_lt (l1 p (List.mem_append_right _ hp))) ap2'); (case SU => assumption); (case Fs => assumption))
  exact ⟨⟨_, _, rfl⟩, ⟨_, _, rfl, rfl, P''⟩⟩
end
end
section
section
variable {w : World} {a da dd od : Addr} {mx : Int} {kvs ord : List (Int × Value)} {own : List (Addr × Obj)} {k k0 : Int} {t t0 : Tok} {v vo v0 : Value}
section
local macro_rules | `(tactic| tm_at "mine call") => `(tactic| (k_here; (with_reducible show wpAny _ _ (call (Value.ref 1004) _) _ _ _); k_dflt (refine' Does.use (lru_get ?O ?hv ?hvo ?hzo) ?F ?X ?N ?T ?hD ?hU ?_; (case F => k_asm); (case X => k_asm); (case T => k_asm); (first | ((case N => k_asm); (case O => walk_at "Ord")) | ((case N => exact news_drop (by k_asm)); (case O => walk_at "Ord"))); (case hv => assumption); (case hvo => assumption); (case hzo => omega); (case hD => walk_at "mine room"); (case hU => walk_at "mine room"); k_whole); intro v' own' h' tk' F' N' P'; (obtain ⟨e1', n', t1', t2', t3', t4', t5', t6', o1', o2', e2', hn', d1', d2', -⟩ := P'; subst e1'; subst e2'); (try dsimp only); (try k_sweep)))
local macro_rules | `(tactic| tm_at "mine call") => `(tactic| (k_here; (with_reducible show wpAny _ _ (call (Value.ref 749) _) _ _ _); k_dflt (refine' Does.use (lru_contains ?O) ?F ?X ?N ?T ?hD ?hU ?_; (case F => k_asm); (case X => k_asm); (case T => k_asm); (first | ((case N => k_asm); (case O => walk_at "Ord")) | ((case N => exact news_drop (by k_asm)); (case O => walk_at "Ord"))); (case hD => walk_at "mine room"); (case hU => walk_at "mine room"); k_whole); intro v' own' h' tk' F' N' P'; (obtain ⟨e1', e2'⟩ := P'; subst e1'; subst e2'); (try dsimp only); (try k_sweep)))
local macro_rules | `(tactic| tm_at "mine call") => `(tactic| (k_here; (with_reducible show wpAny _ _ (call (Value.ref 1020) _) _ _ _); k_dflt (refine' Does.use (lru_del ?O ?hv ?hvo ?hz ?hzo) ?F ?X ?N ?T ?hD ?hU ?_; (case F => k_asm); (case X => k_asm); (case T => k_asm); (first | ((case N => k_asm); (case O => walk_at "Ord")) | ((case N => exact news_drop (by k_asm)); (case O => walk_at "Ord"))); (case hv => assumption); (case hvo => assumption); (case hz => omega); (case hzo => omega); (case hD => walk_at "mine room"); (case hU => walk_at "mine room"); k_whole); intro v' own' h' tk' F' N' P'; (obtain ⟨e1', n', t1', t2', t3', t4', t5', t6', o1', o2', e2', hn', d1', d2', -⟩ := P'; subst e1'; subst e2'); (try dsimp only); (try k_sweep)))
set_option maxHeartbeats 4000000 in
theorem lru_again_in (O : Ord w 1044 "_LRUCache__order" a da dd od mx kvs ord own) (hv : valueAt kvs k = some v) (hvo : valueAt ord k = some vo) (hzo : ord.length ≤ 63) :
    Does w 580 4800 778 [.ref a, .int k t] own (fun r own' => r = v ∧ Ord w 1044 "_LRUCache__order" a da dd od mx kvs (stored (without ord k) k vo) own') := by
  obtain ⟨n, t1, t2, t3, t4, t5, t6, o1, o2, rfl, hn, d1, d2, lo1, lo2, n1, n2, n3, n4, n5, n6⟩ := O
  have hv1 := is_of hv
  w_on
  walk_at "mine intro"
  k_steps
set_option maxHeartbeats 4000000 in
theorem lru_again_out (O : Ord w 1044 "_LRUCache__order" a da dd od mx kvs ord own) (hv : (valueAt kvs k).isSome = false) :
    Does w 580 4800 778 [.ref a, .int k t] own (fun r own' => r = .none ∧ own' = own) := by
  obtain ⟨n, t1, t2, t3, t4, t5, t6, o1, o2, rfl, hn, d1, d2, lo1, lo2, n1, n2, n3, n4, n5, n6⟩ := O
  w_on
  walk_at "mine intro"
  k_steps
end
end
section
variable {w : World} {a da dd ld r rd x xd xk rk : Nat} {cx : Int} {tr tx : Tok} {xn pv : Nat} {mx : Int} {o3 ox ob : Obj} {lk kk kvs kvs' : List (Int × Value)} {k k0 : Int} {t t0 tk : Tok} {v v0 vo : Value} {own rest : List (Addr × Obj)} {PT : Value → List (Addr × Obj) → Prop} {PD : List (Addr × Obj) → Prop} {PR : List (Addr × Obj) → Prop}
section
local macro_rules | `(tactic| tm_at "mine call") => `(tactic| (k_here; (with_reducible show wpAny _ _ (call (Value.ref 749) _) _ _ _); k_dflt (refine' Does.use3 (lfu_contains ?O) ?F ?X ?N ?ap ?T ?hD ?hU ?_; (case F => k_asm); (case X => k_asm); (case T => k_asm); (first | ((case N => k_asm); (case O => walk_at "LfuB")) | ((case N => exact news_drop (by k_asm)); (case O => walk_at "LfuB")));  (case ap => assumption); (case hD => walk_at "mine room"); (case hU => walk_at "mine room"); k_whole); intro v' own' h' tk' F' N' ap' P'; (obtain ⟨e1', e2'⟩ := P'; subst e1'; subst e2'); (try clear ap'); (try simp only [lfuOwn3, List.cons_append, List.nil_append] at N'); (try dsimp only); (try k_sweep)))
local macro_rules | `(tactic| tm_at "mine call") => `(tactic| (k_here; (with_reducible show wpAny _ _ (call (Value.ref 939) _) _ _ _); k_dflt (refine' Does.use ?S ?F ?X ?N ?T ?hD ?hU ?_; (case S => assumption); (case F => k_asm); (case X => k_asm); (case T => k_asm); (first | (case N => k_asm) | (case N => exact news_drop (by k_asm))); (case hD => walk_at "mine room"); (case hU => walk_at "mine room"); k_whole); intro v' own' h' tk' F' N' P'; (obtain ⟨e1', P'⟩ := P'; subst e1'); (try dsimp only); (try k_sweep)))
set_option maxHeartbeats 4000000 in
theorem lfu_again_in (O : LfuB w a da dd ld r mx kvs own) (hv1 : (valueAt kvs k).isSome = true) (ap : Apart own rest)
    (Sg : Does w 570 4790 939 [.ref a, .int k t] (own ++ rest) (fun r' own' => r' = v ∧ PD own')) :
    Does w 560 4780 778 [.ref a, .int k t] (own ++ rest) (fun r' own' => r' = v ∧ PD own') := by
  obtain ⟨n0, t1, t2, t3, t4, t5, t6, t7, o1, rfl, hn0, d1, lo2, hN3⟩ := O
  have hN3' := hN3
  obtain ⟨⟨u1, u2, -⟩, ⟨u3, -⟩, -⟩ := hN3'
  simp only [lfuOwn3, List.cons_append, List.nil_append] at Sg ap ⊢
  w_on
  walk_at "mine intro"
  k_steps
  all_goals assumption
set_option maxHeartbeats 4000000 in
theorem lfu_again_out (O : LfuB w a da dd ld r mx kvs own) (hv1 : (valueAt kvs k).isSome = false) (ap : Apart own rest) :
    Does w 560 4780 778 [.ref a, .int k t] (own ++ rest) (fun r' own' => r' = .none ∧ own' = own ++ rest) := by
  obtain ⟨n0, t1, t2, t3, t4, t5, t6, t7, o1, rfl, hn0, d1, lo2, hN3⟩ := O
  have hN3' := hN3
  obtain ⟨⟨u1, u2, -⟩, ⟨u3, -⟩, -⟩ := hN3'
  simp only [lfuOwn3, List.cons_append, List.nil_append] at ap ⊢
  w_on
  walk_at "mine intro"
  k_steps
end
end
end
section
theorem sortedHeap_other {h : Heap} {a b : Addr} {vs : List Value} {out : Array Value} {o : Obj} (hb : b ≠ a) (e : h.get? b = some o) : (sortedHeap h a vs out).get? b = some o := by
  unfold sortedHeap
  rw [Heap.get?_update_other _ _ (Ne.symm hb)]
  exact Heap.get?_push_of_some _ (Heap.get?_push_of_some _ ((Heap.get?_update_other _ _ (Ne.symm hb)).trans e))
theorem sortedHeap_at {h : Heap} {a : Addr} {vs : List Value} {n : Nat} {out : Array Value} (ho : h.get? a = some (seqObj "list" vs.toArray n)) : ∃ e, (sortedHeap h a vs out).get? a = some (seqObj "list" out e) := by
  unfold sortedHeap
  obtain ⟨e1, ho1⟩ : ∃ e1, (h.update a (Obj.mapSeq fun _ => #[])).get? a = some (seqObj "list" #[] e1) := ⟨_, get?_update_seq ho (fun _ => #[])⟩
  exact ⟨_, get?_update_seq (Heap.get?_push_of_some _ (Heap.get?_push_of_some _ ho1)) (fun _ => out)⟩
section
variable {prog : Program} {w : World} {A : Around} {E : Value → Shared → Prop} {s : Shared} {h₀ : Heap} {L D : Addr} {m : Str → Option Value} {news : List (Addr × Obj)} {vs : List Value} {ns : List Int} {n : Nat}
theorem own_sort {Q : Value → Shared → Prop} (F : Fr h₀ L s.heap m) (N : News h₀ L s.heap ((D, PySem.W.listOf vs.toArray n) :: news)) (hD : ∀ q ∈ news, q.1 ≠ D) (hI : IntsAre vs ns) (h64 : vs.length < 64)
    (h : ∀ h' (out : Array Value) ns' e, Fr h₀ L h' m → News h₀ L h' ((D, PySem.W.listOf out e) :: news) → IntsAre out.toList ns' → ns'.Perm ns → ns'.Pairwise (· ≤ ·) → Q .none { s with heap := h' }) :
    wpAny (model prog w) A (call (.builtin "list.sort") [.ref D]) Q E s := by
  have z := N _ (.head _)
  have ho : s.heap.get? D = some (seqObj "list" vs.toArray n) := z.1
  refine wpAny_call_entry PyProof.Rows.slot_list_sort ⟨_, z.1, rfl⟩ PyProof.Rows.entry_list_sort (list_sort_tree (n := n) (vs := vs) ho hI h64 fun out ns' hI' hp hP => ⟨.none, rfl, ?_⟩) (PyProof.Rows.args_list_sort _)
  obtain ⟨e, he⟩ := sortedHeap_at (out := out) ho
  have oth : ∀ b o, h₀.get? b = some o → (sortedHeap s.heap D vs out).get? b = some o := fun b o q => sortedHeap_other (fun e => by rw [e, z.2.2] at q; cases q) (F.keep b o q)
  obtain ⟨oL, es, ep, hL, hr⟩ := id F.ns
  refine h _ out ns' e ⟨⟨oL, es, ep, sortedHeap_other (Ne.symm z.2.1) hL, hr⟩, oth, F.above⟩ (fun p hp => ?_) hI' hp hP
  rcases List.mem_cons.mp hp with rfl | hp
  · exact ⟨he, z.2⟩
  · exact ⟨sortedHeap_other (hD p hp) (N p (.tail _ hp)).1, (N p (.tail _ hp)).2⟩
end
theorem ints_of_items {w : World} : ∀ {kvs : List (Int × Value)} {vs : List Value}, vs.length = kvs.length → (∀ (j : Nat) (v : Value), vs[j]? = some v → ∃ k x, kvs[j]? = some (k, x) ∧ (PySem.intKind lawProg w).is k v = true) → IntsAre vs (kvs.map (·.1))
  | [], [], _, _ => .nil
  | (k, x) :: kvs, v :: vs, hl, h => by
    obtain ⟨k', x', e, hk⟩ := h 0 v rfl
    cases e
    obtain ⟨t, rfl⟩ := key_int hk
    exact .cons k t (ints_of_items (by simpa using hl) fun j v e => h (j + 1) v (by simpa using e))
  | [], _ :: _, hl, _ => by cases hl
  | _ :: _, [], hl, _ => by cases hl
section
variable {w : World} {D U : Nat} {s : Shared} {h₀ : Heap} {L a C : Addr} {m : Str → Option Value} {mean : ExcName → Option Value} {mg mb : Str → Option Value} {dp un : Nat} {gd : Option (List Code)} {fr : Option (List Env)} {E : Value → Shared → Prop}
  {own rest : List (Addr × Obj)} {kvs : List (Int × Value)} {ox : Obj} {od : Option Obj}
theorem own_sorted {Q : Value → Shared → Prop} (F : Fr h₀ L s.heap m) (X : (hd.heap_39 w.params).In h₀) (N : News h₀ L s.heap (own ++ rest)) (ap : Apart own rest) (T : Top hd.view_39 lawLoose mean mg mb h₀) (hD : dp ≤ D) (hU : un + 8 ≤ U)
    (hI : ∀ h, News h₀ L h own → PySem.W.InstAt h a ox C od)
    (hi : findIn (hd.heap_39 w.params) (.ref C) "__iter__" = some (some (.ref 763))) (hfi : isFn (hd.heap_39 w.params) (.ref 763) = true)
    (hl : findIn (hd.heap_39 w.params) (.ref C) "__len__" = some (some (.ref 770))) (hfl : isFn (hd.heap_39 w.params) (.ref 770) = true)
    (hnk : ∀ q ∈ own, q.2.cls ≠ .type "dict_keyiterator")
    (Si : Does w D U 763 [.ref a] own (fun r o => ∃ I oI ep dd o1, r = .ref I ∧ o = (I, oI) :: own ∧ (dd, o1) ∈ own ∧ KdkIter oI dd 0 kvs.length ep ∧ KdkAt (PySem.intKind lawProg w) o1 kvs ep))
    (Sl : Does w D U 770 [.ref a] own (fun r o => (∃ tk, r = .int kvs.length tk) ∧ o = own)) (hz : kvs.length < 64)
    (h : ∀ (B : Addr) vs ns c h' tk, Fr h₀ L h' m → News h₀ L h' ((B, PySem.W.listOf vs.toArray c) :: (own ++ rest)) → (∀ q ∈ own ++ rest, q.1 < B) → IntsAre vs ns → ns.Perm (kvs.map (·.1)) → ns.Pairwise (· ≤ ·) → Q (.ref B) { s with heap := h', toks := tk }) :
    wpAny (model lawProg w) (aTop dp un gd fr) (call (.builtin "sorted") [.ref a]) Q E s := by
  have I0 := hI _ (news_left N)
  refine call_function_entry kind_sorted plain_sorted entry_sorted (args_sorted1 _) ?_
  unfold Builtin.«sorted»
  refine wpAny_bind (m := checkCount "sorted" 1 1 _) (wpAny_pure ?_)
  refine wpAny_bind ?_
  unfold collect
  refine wpAny_bind (wpAny_runValue (codeAny_builtin entry_proto_collect' ?_))
  rw [Around.under_plainId PySem.F.plain_proto_collect _]
  show wpAny _ _ (newList [] >>= fun l => again (.builtin "list.__iadd__" ⟨[l, .ref a], []⟩)) _ _ s
  refine wpAny_bind (wpAny_newObj_type ?_)
  refine wpAny_pure ⟨plainId_quiet PySem.F.plain_list_iadd _, codeAny_builtin entry_list_iadd' ?_⟩
  rw [Around.under_plainId PySem.F.plain_list_iadd _]
  show wpAny _ _ (Builtin.List.listExtendWith (.ref s.heap.objs.size) (.ref a) (.ref s.heap.objs.size)) _ _ _
  have haS : a ≠ s.heap.objs.size := Nat.ne_of_lt (Heap.lt_size I0.at_)
  have F1 : Fr h₀ L (s.heap.push { cls := .type "list", data := .seq ([] : List Value).toArray }) m := F.push _
  have N1 : News h₀ L (s.heap.push { cls := .type "list", data := .seq ([] : List Value).toArray }) ((s.heap.objs.size, PySem.W.listOf #[] 0) :: (own ++ rest)) := News.push F N _ rfl
  have hlt : ∀ q ∈ own ++ rest, q.1 < s.heap.objs.size := fun q hq => Heap.lt_size (N q hq).1
  have N1' : News h₀ L (s.heap.push { cls := .type "list", data := .seq ([] : List Value).toArray }) (own ++ ((s.heap.objs.size, PySem.W.listOf #[] 0) :: rest)) := news_sub N1 (by
    intro p hp
    simp only [List.mem_append, List.mem_cons] at hp ⊢
    rcases hp with h | h | h <;> simp [h])
  have ap1 : Apart own ((s.heap.objs.size, PySem.W.listOf #[] 0) :: rest) := Apart.of fun p hp => by
    rcases List.mem_cons.mp hp with rfl | hp
    · intro q
      obtain ⟨q', hq', e⟩ := List.mem_map.mp q
      exact absurd (hlt q' (List.mem_append_left _ hq')) (by rw [e]; exact Nat.lt_irrefl _)
    · exact ap.at p hp
  have I1 := hI _ (news_left N1')
  unfold Builtin.List.listExtendWith
  refine wpAny_bind (I1.type.here ?_)
  have h1 : Builtin.List.listSameRef (.ref s.heap.objs.size) (.ref a) = false := by simp [Builtin.List.listSameRef, Ne.symm haS]
  have h2 : (Value.ref C == Value.type "list") = false := rfl
  have h3 : (Value.ref C == Value.type "tuple") = false := rfl
  simp only [h1, h2, h3, Bool.or_false, Bool.false_eq_true, if_false]
  refine wpAny_bind (owit_iter F1 X I1 hi hfi ?_)
  refine Si.useR F1 X N1' ap1 T hD (by dsimp only [aTop, Around.in1]; omega) ?_
  rintro v own' h' tk' F' N' ap2 ⟨I, oI, ep, dd, o1, rfl, rfl, hm, hki, hka⟩
  have hit : h'.IsKeyIter I dd 0 kvs.length ep := hki.at (N' _ (.head _)).1
  unfold OwitIt
  refine wpAny_specialOf (name := Str.ofString "__next__") hit.typeIs PySem.F.slot_dict_keyiterator_next.lookup ?_
  dsimp only
  refine wpAny_bind (wpAny_holding ?_)
  unfold Builtin.List.listLengthHint
  have N2 : News h₀ L h' (own ++ ((I, oI) :: (s.heap.objs.size, PySem.W.listOf #[] 0) :: rest)) := news_sub N' (by
    intro p hp
    simp only [List.mem_append, List.mem_cons] at hp ⊢
    rcases hp with h | h | h | h <;> simp [h])
  have I2 := hI _ (news_left N2)
  have hIo : ∀ q ∈ own, q.1 ≠ I := fun q hq e => hnk q hq (by
    have z1 := (N' q (.tail _ (List.mem_append_left _ hq))).1
    have z2 := (N' (I, oI) (.head _)).1
    rw [e, z2] at z1
    rw [← Option.some.inj z1]
    exact hki.1)
  have ap2' : Apart own ((I, oI) :: (s.heap.objs.size, PySem.W.listOf #[] 0) :: rest) := Apart.of fun p hp => by
    rcases List.mem_cons.mp hp with rfl | hp
    · intro q
      obtain ⟨q', hq', e⟩ := List.mem_map.mp q
      exact hIo q' hq' e
    · exact ap1.at p hp
  refine wpAny_bind (wpAny_bind (I2.type.here ((looks_findIn (X.keeps F'.keep) hl).here ?_)))
  dsimp only
  refine wpAny_ite_split (fun hab => absurd hab Bool.false_ne_true) (fun _ => ?_)
  refine wpAny_ite_split (fun _ => ?_) (fun hab => absurd rfl hab)
  refine wpAny_bind (wpAny_rule ?_)
  refine wpAny_bind (wpAny_attempt ?_)
  refine len_K F' X I2 hl hfl ?_
  refine Sl.useR F' X N2 (ap2' : Apart own ((I, oI) :: (s.heap.objs.size, PySem.W.listOf #[] 0) :: rest)) T hD (by dsimp only [aTop, Around.in1]; omega) ?_
  rintro v own' h2' tk2' F2 N3 ap3 ⟨⟨tl, rfl⟩, hoo⟩
  rw [hoo] at N3 ap3
  clear hoo own'
  refine ⟨⟨by omega, by omega⟩, ?_⟩
  dsimp only
  refine wpAny_bind (wpAny_pure ?_)
  dsimp only
  have hSr : ∀ q ∈ rest, q.1 ≠ s.heap.objs.size := fun q hq => Nat.ne_of_lt (hlt q (List.mem_append_right _ hq))
  have hSo : ∀ q ∈ own, q.1 ≠ s.heap.objs.size := fun q hq => Nat.ne_of_lt (hlt q (List.mem_append_left _ hq))
  refine wpAny_ite_split (fun hab => absurd hab (by simp [Builtin.List.listTooLong, sizeLine_eq]; omega)) (fun _ => ?_)
  have hIr : ∀ q ∈ rest, q.1 ≠ I := fun q hq e => ap2.at q (.tail _ hq) (by rw [e]; exact List.mem_map.mpr ⟨_, .head _, rfl⟩)
  have hSI : (s.heap.objs.size : Nat) ≠ I := fun e => ap2.at _ (.head _) (List.mem_map.mpr ⟨(I, oI), .head _, e.symm⟩)
  have hne : dd ≠ I := hIo _ hm
  have hSd : s.heap.objs.size ≠ dd := Ne.symm (hSo _ hm)
  have zI := N3 (I, oI) (List.mem_append_right _ (.head _))
  have zS := N3 (s.heap.objs.size, PySem.W.listOf #[] 0) (List.mem_append_right _ (.tail _ (.head _)))
  have zd := N3 (dd, o1) (List.mem_append_left _ hm)
  have key : ∀ (hh : Heap) (c₁ tk : Nat), (∀ b o, b ≠ s.heap.objs.size → h2'.get? b = some o → hh.get? b = some o) → hh.get? s.heap.objs.size = some { cls := .type "list", data := .seq #[] c₁ } →
      codeAny (model lawProg w) (aTop dp un gd fr).in1 (.builtin "list.extend.loop" ⟨[.ref s.heap.objs.size, .ref I, .ref s.heap.objs.size], []⟩) (fun r s' =>
                  match r with
                  | Except.ok (Flow.ret v) =>
                    wpAny (model lawProg w) (aTop dp un gd fr).in1
                      (match v with
                      | Value.ref a => do
                        let __do_lift ← load a
                        match __do_lift.data with
                          | Data.seq xs epoch => pure xs.toList
                          | x => unsupported "internal:collect"
                      | x => unsupported "internal:collect")
                      (fun a s' =>
                        wpAny (model lawProg w) (aTop dp un gd fr).in1
                          (do
                            let l ← newList a
                            let _ ← holding [l] (call (Value.builtin "list.sort") [l])
                            ret l)
                          (fun fin s' => ∃ v, fin = Fin.done (Flow.ret v) ∧ Q v s') E s')
                      E s'
                  | Except.ok a => False
                  | Except.error e => E e s') { s with heap := hh, toks := tk } := by
    intro hh c₁ tk hk hS
    have W := Walks.dictKeys (prog := lawProg) (w := w) (knd := PySem.intKind lawProg w) (A := (aTop dp un gd fr).in1.in1) rfl I dd hne kvs ep
    have hgI : hh.get? I = some oI := hk _ _ (Ne.symm hSI) zI.1
    have hgd : hh.get? dd = some o1 := hk _ _ (Ne.symm hSd) zd.1
    refine codeAny_extend_loopS W.toS (by rw [sizeLine_eq]; omega) s.heap.objs.size (by simp only [List.mem_cons, List.not_mem_nil, or_false, not_or]; exact ⟨hSI, hSd⟩) _ kvs.length 0 _ #[] c₁ rfl (Nat.zero_le _) ⟨hki.at hgI, hka.dictAt hgd⟩ hS (ItemsOf.nil _) fun s' acc' c' hmv hS' hacc => ?_
    have hk2 : ∀ b o, b ≠ s.heap.objs.size → b ≠ I → h2'.get? b = some o → s'.heap.get? b = some o := fun b o b1 b2 e => hmv.heap b o (by simp only [List.mem_cons, List.not_mem_nil, or_false, not_or]; exact ⟨b1, b2⟩) (hk b o b1 e)
    have F3 : Fr h₀ L s'.heap m := by
      obtain ⟨oL, es, epL, hL, hr⟩ := id F2.ns
      exact ⟨⟨oL, es, epL, hk2 _ _ (Ne.symm zS.2.1) (Ne.symm zI.2.1) hL, hr⟩, fun b o e => hk2 b o (fun q => by rw [q, zS.2.2] at e; cases e) (fun q => by rw [q, zI.2.2] at e; cases e) (F2.keep b o e), F2.above⟩
    have N4 : News h₀ L s'.heap (own ++ rest) := fun p hp => by
      rcases List.mem_append.mp hp with hp | hp
      · have := N3 p (List.mem_append_left _ hp)
        exact ⟨hk2 _ _ (hSo p hp) (hIo p hp) this.1, this.2⟩
      · have := N3 p (List.mem_append_right _ (.tail _ (.tail _ hp)))
        exact ⟨hk2 _ _ (hSr p hp) (hIr p hp) this.1, this.2⟩
    rw [Moved.eq_with hmv] at F3 N4 hS' ⊢
    dsimp only at F3 N4 hS' ⊢
    refine wpAny_bind (wpAny_load hS' ?_)
    refine wpAny_pure ?_
    have hlen : acc'.toList.length = kvs.length := by rw [Array.length_toList]; exact hacc.1
    have hi4 : IntsAre acc'.toList (kvs.map (·.1)) := ints_of_items hlen fun j v e => hacc.2 j v (by rw [← Array.getElem?_toList]; exact e)
    refine wpAny_bind (wpAny_newList ?_ (by rw [hlen, sizeLine_eq]; omega))
    have N5 := News.push F3 N4 { cls := .type "list", data := .seq acc'.toList.toArray } rfl
    have lt5 : ∀ q ∈ own ++ rest, q.1 < s'.heap.objs.size := fun q hq => Heap.lt_size (N4 q hq).1
    refine wpAny_bind (wpAny_holding (own_sort (F3.push _) N5 (fun q hq => Nat.ne_of_lt (lt5 q hq)) hi4 (by omega) fun h6 out ns' e6 F6 N6 hi6 hp6 ho6 => ?_))
    exact wpAny_pure ⟨_, rfl, h _ out.toList ns' e6 h6 _ F6 (by rw [Array.toArray_toList]; exact N6) lt5 hi6 hp6 ho6⟩
  refine wpAny_pure ?_
  refine wpAny_ite_split (fun _ => ?_) (fun _ => wpAny_pure ⟨plainId_quiet PySem.F.plain_extend_loop _, key h2' 0 _ (fun b o _ e => e) zS.1⟩)
  refine wpAny_bind (wpAny_rule ?_)
  refine wpAny_bind ?_
  show wpAny _ _ (updateSeq s.heap.objs.size (·.push .none) >>= fun _ => updateSeq s.heap.objs.size (·.pop)) _ _ _
  have zS1 : h2'.get? s.heap.objs.size = some { cls := .type "list", data := .seq #[] 0 } := zS.1
  refine wpAny_bind (wpAny_updateSeq zS1 rfl ?_)
  have hS₂ := Heap.get?_update_self (Obj.mapSeq (·.push Value.none)) zS1 rfl
  refine wpAny_updateSeq hS₂ rfl ?_
  have hS₃ := Heap.get?_update_self (Obj.mapSeq (·.pop)) hS₂ rfl
  exact wpAny_pure ⟨plainId_quiet PySem.F.plain_extend_loop _, key _ _ _ (fun b o hb e => (Heap.get?_update_other _ _ (Ne.symm hb)).trans ((Heap.get?_update_other _ _ (Ne.symm hb)).trans e)) hS₃⟩
end
end
section
def told (kind key : Int) (kvs : List (Int × Value)) (fr : Option Int) : Told :=
  if kind = 0 then .nil else if kind = 1 ∨ kind = 2 then .one (valueAt kvs key) else match fr with
    | none => .nil
    | some k0 => match valueAt kvs k0 with
      | some v => .pair k0 v
      | none => .nil
def dataNext (mx kind key : Int) (v : Value) (fr : Option Int) (kvs : List (Int × Value)) : List (Int × Value) :=
  if kind = 0 then (if (valueAt kvs key).isSome = true ∨ (kvs.length : Int) < mx then stored kvs key v else match fr with
    | some k0 => stored (without kvs k0) key v
    | none => stored kvs key v)
  else if kind = 1 then kvs else if kind = 2 then without kvs key else match fr with
    | some k0 => without kvs k0
    | none => kvs
def lruNext (mx kind key : Int) (ks : List Int) : List Int :=
  if kind = 0 then (if key ∈ ks then ks.filter (· ≠ key) ++ [key] else if (ks.length : Int) < mx then ks ++ [key] else ks.tail ++ [key])
  else if kind = 1 then (if key ∈ ks then ks.filter (· ≠ key) ++ [key] else ks)
  else if kind = 2 then ks.filter (· ≠ key) else ks.tail
def fifoNext (mx kind key : Int) (ks : List Int) : List Int :=
  if kind = 0 then (if key ∈ ks then ks.filter (· ≠ key) ++ [key] else if (ks.length : Int) < mx then ks ++ [key] else ks.tail ++ [key])
  else if kind = 1 then ks
  else if kind = 2 then ks.filter (· ≠ key) else ks.tail
def lfuNext (mx kind key : Int) (len : Nat) (sh : Sh) : Sh :=
  if kind = 0 then (if key ∈ keysOf sh then tch key sh else if (len : Int) < mx then ich key sh else match (keysOf sh).head? with
    | some k0 => ich key (dch k0 sh)
    | none => ich key sh)
  else if kind = 1 then tch key sh else if kind = 2 then dch key (tch key sh) else match (keysOf sh).head? with
    | some k0 => dch k0 sh
    | none => sh
/-- an LRU or FIFO cache: what it holds, in which order it goes -/
def OrdS (w : World) (C : Addr) (on : Str) (a : Nat) (mx : Int) (kvs : List (Int × Value)) (ks : List Int) (own : List (Addr × Obj)) : Prop :=
  ∃ da dd od : Nat, Ord w C on a da dd od mx kvs (okv ks) own ∧ (kvs.map (·.1)).Perm ks
theorem okv_at {ks : List Int} {k : Int} : valueAt (okv ks) k = if k ∈ ks then some .none else none := by
  induction ks with
  | nil => rfl
  | cons x ks ih =>
    by_cases e : x = k
    · subst e; simp [okv, valueAt]
    · have : valueAt (okv (x :: ks)) k = valueAt (okv ks) k := by
        show valueAt ((x, Value.none) :: okv ks) k = _
        unfold valueAt
        rw [List.find?_cons_of_neg (by simpa using e)]
      rw [this, ih]
      simp [show ¬ k = x from fun q => e q.symm]
theorem mem_of_perm {kvs : List (Int × Value)} {ks : List Int} {k : Int} (p : (kvs.map (·.1)).Perm ks) : (valueAt kvs k).isSome = true ↔ k ∈ ks := by rw [valueAt_mem]; exact p.mem_iff
theorem ord_nodup {w : World} {C : Addr} {on : Str} {a da dd od : Addr} {mx : Int} {kvs : List (Int × Value)} {ks : List Int} {own : List (Addr × Obj)} (O : Ord w C on a da dd od mx kvs (okv ks) own) : (kvs.map (·.1)).Nodup ∧ ks.Nodup := by
  obtain ⟨n, t1, t2, t3, t4, t5, t6, o1, o2, rfl, hn, d1, d2, ha⟩ := O
  exact ⟨dict_nodup d1, by have := dict_nodup d2; simpa [okv, List.map_map, Function.comp_def] using this⟩
theorem len_of_perm {kvs : List (Int × Value)} {ks : List Int} (p : (kvs.map (·.1)).Perm ks) : ks.length = kvs.length := by have := p.length_eq; rw [List.length_map] at this; omega
theorem keys_stored_old {kvs : List (Int × Value)} {k : Int} {v : Value} (h : (valueAt kvs k).isSome = true) : (stored kvs k v).map (·.1) = kvs.map (·.1) := stored_keys_old (valueAt_mem.mp h)
theorem keys_stored_new {kvs : List (Int × Value)} {k : Int} {v : Value} (h : (valueAt kvs k).isSome = false) : (stored kvs k v).map (·.1) = kvs.map (·.1) ++ [k] := stored_keys_new fun q => by rw [valueAt_mem.mpr q] at h; cases h
theorem okv_touch {ks : List Int} {k : Int} : stored (without (okv ks) k) k .none = okv (ks.filter (· ≠ k) ++ [k]) := by rw [okv_without, okv_stored (by simp)]
theorem filter_head {k0 : Int} {ks : List Int} (h : (k0 :: ks).Nodup) : (k0 :: ks).filter (· ≠ k0) = ks := by
  rw [List.filter_cons_of_neg (by simp)]; exact filter_ne_self (List.nodup_cons.mp h).1
theorem isF {α : Type} {o : Option α} (h : ¬ o.isSome = true) : o.isSome = false := by simpa using h
theorem some_of {α : Type} {o : Option α} (h : o.isSome = true) : ∃ v, o = some v := Option.isSome_iff_exists.mp h
section
variable {w : World} {a : Nat} {mx kind key : Int} {kvs : List (Int × Value)} {ks : List Int} {own : List (Addr × Obj)} {t t0 : Tok} {v : Value}
abbrev UseO (w : World) (C : Addr) (on : Str) (nx : List Int) (a : Nat) (mx kind key : Int) (kvs : List (Int × Value)) (ks : List Int) (own : List (Addr × Obj)) (t t0 : Tok) (v : Value) : Prop :=
  DoesF w 540 4500 1053 [.ref a, .int kind t0, .int key t, v] own (fun r o => ∃ X o2, o = X ++ o2 ∧ ToldIs (told kind key kvs ks.head?) r X ∧ OrdS w C on a mx (dataNext mx kind key v ks.head? kvs) nx o2)
theorem lru_kind0 (I : OrdS w 1044 "_LRUCache__order" a mx kvs ks own) (hz : (kvs.length : Int) ≤ mx) (h1 : 1 ≤ mx) (h8 : mx ≤ 8) : UseO w 1044 "_LRUCache__order" (lruNext mx 0 key ks) a mx 0 key kvs ks own t t0 v := by
  obtain ⟨da, dd, od, O, p⟩ := I
  obtain ⟨nd1, nd2⟩ := ord_nodup O
  have hl := len_of_perm p
  have ol := okv_len (ks := ks)
  have fin : ∀ {kvs' : List (Int × Value)} {ks' : List Int}, DoesF w 560 4600 1012 [.ref a, .int key t, v] own (fun r o => r = .none ∧ Ord w 1044 "_LRUCache__order" a da dd od mx kvs' (okv ks') o) → (kvs'.map (·.1)).Perm ks' →
      dataNext mx 0 key v ks.head? kvs = kvs' → lruNext mx 0 key ks = ks' → UseO w 1044 "_LRUCache__order" (lruNext mx 0 key ks) a mx 0 key kvs ks own t t0 v := by
    intro kvs' ks' S p' e1 e2
    obtain ⟨n, t1, t2, t3, t4, t5, t6, o1, o2, rfl, hn, d1, d2, ha⟩ := O
    refine (lru_use0 (t0 := t0) S).ex fun r o h => ?_
    obtain ⟨R, o2', rfl, rfl, O'⟩ := h.p
    exact ⟨[_], o2', rfl, ⟨R, rfl, rfl⟩, da, dd, od, by rw [e1, e2]; exact O', by rw [e1, e2]; exact p'⟩
  by_cases hk : (valueAt kvs key).isSome = true
  · have hm : key ∈ ks := (mem_of_perm p).mp hk
    have S := lru_set_old (t := t) (v := v) O hk (show valueAt (okv ks) key = some .none by rw [okv_at, if_pos hm]) (by omega) (by omega) h1
    rw [okv_touch] at S
    refine fin S ?_ (by unfold dataNext; rw [if_pos rfl, if_pos (.inl hk)]) (by unfold lruNext; rw [if_pos rfl, if_pos hm])
    rw [keys_stored_old hk]
    exact p.trans (perm_filter_add nd2 hm).symm
  · have hm : key ∉ ks := fun q => hk ((mem_of_perm p).mpr q)
    have hk' := isF hk
    by_cases hf : (kvs.length : Int) < mx
    · have S := lru_set_new (t := t) (v := v) O hk' (show valueAt (okv ks) key = none by rw [okv_at, if_neg hm]) (by omega) (by omega) hf
      rw [okv_stored hm] at S
      refine fin S ?_ (by unfold dataNext; rw [if_pos rfl, if_pos (.inr hf)]) (by unfold lruNext; rw [if_pos rfl, if_neg hm, if_pos (by omega)])
      rw [keys_stored_new hk']
      exact p.append_right [key]
    · cases ks with
      | nil => simp only [List.length_nil] at hl; omega
      | cons k0 ks =>
        have hk0 : (valueAt kvs k0).isSome = true := (mem_of_perm p).mpr (.head _)
        obtain ⟨v0, hv0⟩ := some_of hk0
        have hm2 : key ∉ ks := fun q => hm (.tail _ q)
        have hw : without (okv (k0 :: ks)) k0 = okv ks := by rw [okv_without, filter_head nd2]
        have S := lru_set_full (t := t) (v := v) O hk' (show valueAt (without (okv (k0 :: ks)) k0) key = none by rw [hw, okv_at, if_neg hm2]) (by omega) (by omega) (by omega) h1 (show (okv (k0 :: ks))[0]? = some (k0, .none) from rfl) hv0
        rw [hw, okv_stored hm2] at S
        refine fin S ?_ (by unfold dataNext; rw [if_pos rfl, if_neg (by rintro (q | q); exact hk q; exact hf q)]; rfl) (by unfold lruNext; rw [if_pos rfl, if_neg hm, if_neg (by omega)]; rfl)
        rw [keys_stored_new (valueAt_without_none hk'), without_keys]
        refine List.Perm.append_right [key] ?_
        have := p.filter (· ≠ k0)
        rwa [filter_head nd2] at this
theorem lru_kind1 (I : OrdS w 1044 "_LRUCache__order" a mx kvs ks own) (hz : (kvs.length : Int) ≤ mx) (h8 : mx ≤ 8) : UseO w 1044 "_LRUCache__order" (lruNext mx 1 key ks) a mx 1 key kvs ks own t t0 v := by
  obtain ⟨da, dd, od, O, p⟩ := I
  obtain ⟨nd1, nd2⟩ := ord_nodup O
  have hl := len_of_perm p
  have ol := okv_len (ks := ks)
  refine DoesF.of ?_
  by_cases hk : (valueAt kvs key).isSome = true
  · have hm : key ∈ ks := (mem_of_perm p).mp hk
    obtain ⟨v1, hv1⟩ := some_of hk
    have S := fun t' => (lru_read_in (t := t) (v0 := .str "none" t') O hv1 (show valueAt (okv ks) key = some .none by rw [okv_at, if_pos hm]) (by omega)).dp (D' := 550) (U' := 4780) (by omega) (by omega)
    rw [okv_touch] at S
    obtain ⟨n, t1, t2, t3, t4, t5, t6, o1, o2, rfl, hn, d1, d2, ha⟩ := O
    refine (lru_use1 (t0 := t0) S).ex fun r o h => ?_
    obtain ⟨R, x, o2', rfl, rfl, rfl, O'⟩ := h.p
    refine ⟨[_], o2', rfl, ?_, da, dd, od, ?_, ?_⟩
    · unfold told; rw [if_neg (by decide), if_pos (.inl rfl), hv1]; exact ⟨R, rfl, rfl⟩
    · unfold dataNext lruNext; rw [if_neg (by decide), if_pos rfl, if_neg (by decide), if_pos rfl, if_pos hm]; exact O'
    · unfold dataNext lruNext; rw [if_neg (by decide), if_pos rfl, if_neg (by decide), if_pos rfl, if_pos hm]; exact p.trans (perm_filter_add nd2 hm).symm
  · have hm : key ∉ ks := fun q => hk ((mem_of_perm p).mpr q)
    have S := fun t' => (lru_read_out (t := t) (v0 := .str "none" t') O (isF hk)).dp (D' := 550) (U' := 4780) (by omega) (by omega)
    have O0 := O
    obtain ⟨n, t1, t2, t3, t4, t5, t6, o1, o2, rfl, hn, d1, d2, ha⟩ := O
    refine (lru_use1 (t0 := t0) fun t' => (S t').ex (P' := fun x o => (∃ t', x = .str "none" t') ∧ o = _) fun r o h => ⟨⟨t', h.1⟩, h.2⟩).ex fun r o h => ?_
    obtain ⟨R, x, o2', rfl, rfl, ⟨t', rfl⟩, rfl⟩ := h.p
    refine ⟨[_], _, rfl, ?_, da, dd, od, ?_, ?_⟩
    · unfold told; rw [if_neg (by decide), if_pos (.inl rfl), Option.not_isSome_iff_eq_none.mp hk]; exact ⟨R, t', rfl, rfl⟩
    · unfold dataNext lruNext; rw [if_neg (by decide), if_pos rfl, if_neg (by decide), if_pos rfl, if_neg hm]; exact O0
    · unfold dataNext lruNext; rw [if_neg (by decide), if_pos rfl, if_neg (by decide), if_pos rfl, if_neg hm]; exact p
theorem lru_kind2 (I : OrdS w 1044 "_LRUCache__order" a mx kvs ks own) (hz : (kvs.length : Int) ≤ mx) (h8 : mx ≤ 8) : UseO w 1044 "_LRUCache__order" (lruNext mx 2 key ks) a mx 2 key kvs ks own t t0 v := by
  obtain ⟨da, dd, od, O, p⟩ := I
  obtain ⟨nd1, nd2⟩ := ord_nodup O
  have hl := len_of_perm p
  have ol := okv_len (ks := ks)
  refine DoesF.of ?_
  have hp : ((without kvs key).map (·.1)).Perm (ks.filter (· ≠ key)) := by rw [without_keys]; exact p.filter _
  by_cases hk : (valueAt kvs key).isSome = true
  · have hm : key ∈ ks := (mem_of_perm p).mp hk
    obtain ⟨v1, hv1⟩ := some_of hk
    have S := fun t' => (lru_pop_in (t := t) (v0 := .str "none" t') O hv1 (show valueAt (okv ks) key = some .none by rw [okv_at, if_pos hm]) (by omega) (by omega)).dp (D' := 550) (U' := 4770) (by omega) (by omega)
    rw [okv_touch, okv_without, List.filter_append, show List.filter (· ≠ key) [key] = [] from by simp, List.append_nil, List.filter_filter] at S
    simp only [Bool.and_self] at S
    obtain ⟨n, t1, t2, t3, t4, t5, t6, o1, o2, rfl, hn, d1, d2, ha⟩ := O
    refine (lru_use2 (t0 := t0) S).ex fun r o h => ?_
    obtain ⟨R, x, o2', rfl, rfl, rfl, O'⟩ := h.p
    refine ⟨[_], o2', rfl, ?_, da, dd, od, ?_, ?_⟩
    · unfold told; rw [if_neg (by decide), if_pos (.inr rfl), hv1]; exact ⟨R, rfl, rfl⟩
    · exact O'
    · exact hp
  · have hm : key ∉ ks := fun q => hk ((mem_of_perm p).mpr q)
    have S := fun t' => (lru_pop_out (t := t) (t0 := t') (x := "none") O (isF hk)).dp (D' := 550) (U' := 4770) (by omega) (by omega)
    have O0 := O
    have e1 : without kvs key = kvs := without_of_not_mem _ _ fun q => hk (valueAt_mem.mpr q)
    have e2 : ks.filter (· ≠ key) = ks := filter_ne_self hm
    obtain ⟨n, t1, t2, t3, t4, t5, t6, o1, o2, rfl, hn, d1, d2, ha⟩ := O
    refine (lru_use2 (t0 := t0) fun t' => (S t').ex (P' := fun x o => (∃ t', x = .str "none" t') ∧ o = _) fun r o h => ⟨⟨t', h.1⟩, h.2⟩).ex fun r o h => ?_
    obtain ⟨R, x, o2', rfl, rfl, ⟨t', rfl⟩, rfl⟩ := h.p
    refine ⟨[_], _, rfl, ?_, da, dd, od, ?_, ?_⟩
    · unfold told; rw [if_neg (by decide), if_pos (.inr rfl), Option.not_isSome_iff_eq_none.mp hk]; exact ⟨R, t', rfl, rfl⟩
    · show Ord _ _ _ _ _ _ _ _ (without kvs key) (okv (ks.filter (· ≠ key))) _
      rw [e1, e2]; exact O0
    · exact hp
theorem lru_kind3 (I : OrdS w 1044 "_LRUCache__order" a mx kvs ks own) (hz : (kvs.length : Int) ≤ mx) (h8 : mx ≤ 8) : UseO w 1044 "_LRUCache__order" (lruNext mx 3 key ks) a mx 3 key kvs ks own t t0 v := by
  obtain ⟨da, dd, od, O, p⟩ := I
  obtain ⟨nd1, nd2⟩ := ord_nodup O
  have hl := len_of_perm p
  have ol := okv_len (ks := ks)
  refine DoesF.of ?_
  have Sl := lru_len O (by omega)
  have O0 := O
  cases ks with
  | nil =>
    have hn0 : kvs.length = 0 := by simp only [List.length_nil] at hl; omega
    obtain ⟨n, t1, t2, t3, t4, t5, t6, o1, o2, rfl, hn, d1, d2, ha⟩ := O
    rw [hn0] at Sl
    refine (lru_use3n (t0 := t0) (k := key) (t := t) (v := v) Sl).ex fun r o h => ?_
    obtain ⟨R, rfl, rfl⟩ := h.p
    exact ⟨[_], _, rfl, ⟨R, rfl, rfl⟩, da, dd, od, O0, p⟩
  | cons k0 ks =>
    obtain ⟨v0, hv0⟩ := some_of ((mem_of_perm p).mpr (.head ks))
    have Sp := (lru_popitem O (show (okv (k0 :: ks))[0]? = some (k0, .none) from rfl) hv0 (by omega) (by omega)).dp (D' := 550) (U' := 4770) (by omega) (by omega)
    rw [okv_without, filter_head nd2] at Sp
    simp only [List.length_cons] at hl
    obtain ⟨n, t1, t2, t3, t4, t5, t6, o1, o2, rfl, hn, d1, d2, ha⟩ := O
    refine (lru_use3 (t0 := t0) (k := key) (t := t) (v := v) (by omega) (by omega) Sl Sp).ex fun r o h => ?_
    obtain ⟨R, x, o2', rfl, rfl, T, tk, own2, rfl, rfl, O'⟩ := h.p
    refine ⟨[_, _], own2, rfl, ?_, da, dd, od, O', ?_⟩
    · unfold told; rw [if_neg (by decide), if_neg (by decide)]; simp only [List.head?_cons, hv0]; exact ⟨R, T, tk, rfl, rfl⟩
    · show ((without kvs k0).map (·.1)).Perm ks
      rw [without_keys]
      have := p.filter (· ≠ k0)
      rwa [filter_head nd2] at this
theorem lru_use (I : OrdS w 1044 "_LRUCache__order" a mx kvs ks own) (hz : (kvs.length : Int) ≤ mx) (h1 : 1 ≤ mx) (h8 : mx ≤ 8) (hkind : kind = 0 ∨ kind = 1 ∨ kind = 2 ∨ kind = 3) : UseO w 1044 "_LRUCache__order" (lruNext mx kind key ks) a mx kind key kvs ks own t t0 v := by
  rcases hkind with rfl | rfl | rfl | rfl
  · exact lru_kind0 I hz h1 h8
  · exact lru_kind1 I hz h8
  · exact lru_kind2 I hz h8
  · exact lru_kind3 I hz h8
theorem fifo_kind0 (I : OrdS w 882 "_FIFOCache__order" a mx kvs ks own) (hz : (kvs.length : Int) ≤ mx) (h1 : 1 ≤ mx) (h8 : mx ≤ 8) : UseO w 882 "_FIFOCache__order" (fifoNext mx 0 key ks) a mx 0 key kvs ks own t t0 v := by
  obtain ⟨da, dd, od, O, p⟩ := I
  obtain ⟨nd1, nd2⟩ := ord_nodup O
  have hl := len_of_perm p
  have ol := okv_len (ks := ks)
  have fin : ∀ {kvs' : List (Int × Value)} {ks' : List Int}, Does w 560 4600 857 [.ref a, .int key t, v] own (fun r o => r = .none ∧ Ord w 882 "_FIFOCache__order" a da dd od mx kvs' (okv ks') o) → (kvs'.map (·.1)).Perm ks' →
      dataNext mx 0 key v ks.head? kvs = kvs' → fifoNext mx 0 key ks = ks' → UseO w 882 "_FIFOCache__order" (fifoNext mx 0 key ks) a mx 0 key kvs ks own t t0 v := by
    intro kvs' ks' S p' e1 e2
    obtain ⟨n, t1, t2, t3, t4, t5, t6, o1, o2, rfl, hn, d1, d2, ha⟩ := O
    refine DoesF.of <| (fifo_use0 (t0 := t0) (S.dp (by omega) (by omega))).ex fun r o h => ?_
    obtain ⟨R, o2', rfl, rfl, O'⟩ := h.p
    exact ⟨[_], o2', rfl, ⟨R, rfl, rfl⟩, da, dd, od, by rw [e1, e2]; exact O', by rw [e1, e2]; exact p'⟩
  by_cases hk : (valueAt kvs key).isSome = true
  · have hm : key ∈ ks := (mem_of_perm p).mp hk
    have S := fifo_set_old (t := t) (v := v) O hk (show valueAt (okv ks) key = some .none by rw [okv_at, if_pos hm]) (by omega) (by omega) h1
    rw [okv_touch] at S
    refine fin S ?_ (by unfold dataNext; rw [if_pos rfl, if_pos (.inl hk)]) (by unfold fifoNext; rw [if_pos rfl, if_pos hm])
    rw [keys_stored_old hk]
    exact p.trans (perm_filter_add nd2 hm).symm
  · have hm : key ∉ ks := fun q => hk ((mem_of_perm p).mpr q)
    have hk' := isF hk
    by_cases hf : (kvs.length : Int) < mx
    · have S := fifo_set_new (t := t) (v := v) O hk' (show (valueAt (okv ks) key).isSome = false by rw [okv_at, if_neg hm]; rfl) (by omega) (by omega) hf
      rw [okv_stored hm] at S
      refine fin S ?_ (by unfold dataNext; rw [if_pos rfl, if_pos (.inr hf)]) (by unfold fifoNext; rw [if_pos rfl, if_neg hm, if_pos (by omega)])
      rw [keys_stored_new hk']
      exact p.append_right [key]
    · cases ks with
      | nil => simp only [List.length_nil] at hl; omega
      | cons k0 ks =>
        have hk0 : (valueAt kvs k0).isSome = true := (mem_of_perm p).mpr (.head _)
        obtain ⟨v0, hv0⟩ := some_of hk0
        have hm2 : key ∉ ks := fun q => hm (.tail _ q)
        have hw : without (okv (k0 :: ks)) k0 = okv ks := by rw [okv_without, filter_head nd2]
        have S := fifo_set_full (t := t) (v := v) O hk' (show (valueAt (without (okv (k0 :: ks)) k0) key).isSome = false by rw [hw, okv_at, if_neg hm2]; rfl) (by omega) (by omega) (by omega) h1 (show (okv (k0 :: ks))[0]? = some (k0, .none) from rfl) hv0
        rw [hw, okv_stored hm2] at S
        refine fin S ?_ (by unfold dataNext; rw [if_pos rfl, if_neg (by rintro (q | q); exact hk q; exact hf q)]; rfl) (by unfold fifoNext; rw [if_pos rfl, if_neg hm, if_neg (by omega)]; rfl)
        rw [keys_stored_new (valueAt_without_none hk'), without_keys]
        refine List.Perm.append_right [key] ?_
        have := p.filter (· ≠ k0)
        rwa [filter_head nd2] at this
theorem fifo_kind1 (I : OrdS w 882 "_FIFOCache__order" a mx kvs ks own) (hz : (kvs.length : Int) ≤ mx) (h8 : mx ≤ 8) : UseO w 882 "_FIFOCache__order" (fifoNext mx 1 key ks) a mx 1 key kvs ks own t t0 v := by
  obtain ⟨da, dd, od, O, p⟩ := I
  obtain ⟨nd1, nd2⟩ := ord_nodup O
  have hl := len_of_perm p
  have ol := okv_len (ks := ks)
  refine DoesF.of ?_
  by_cases hk : (valueAt kvs key).isSome = true
  · have hm : key ∈ ks := (mem_of_perm p).mp hk
    obtain ⟨v1, hv1⟩ := some_of hk
    have S := fun t' => (fifo_read_in (t := t) (v0 := .str "none" t') O hv1).dp (D' := 550) (U' := 4780) (by omega) (by omega)
    have O0 := O
    obtain ⟨n, t1, t2, t3, t4, t5, t6, o1, o2, rfl, hn, d1, d2, ha⟩ := O
    refine (fifo_use1 (t0 := t0) S).ex fun r o h => ?_
    obtain ⟨R, x, o2', rfl, rfl, rfl, rfl⟩ := h.p
    refine ⟨[_], _, rfl, ?_, da, dd, od, O0, p⟩
    unfold told; rw [if_neg (by decide), if_pos (.inl rfl), hv1]; exact ⟨R, rfl, rfl⟩
  · have hm : key ∉ ks := fun q => hk ((mem_of_perm p).mpr q)
    have S := fun t' => (fifo_read_out (t := t) (v0 := .str "none" t') O (isF hk)).dp (D' := 550) (U' := 4780) (by omega) (by omega)
    have O0 := O
    obtain ⟨n, t1, t2, t3, t4, t5, t6, o1, o2, rfl, hn, d1, d2, ha⟩ := O
    refine (fifo_use1 (t0 := t0) fun t' => (S t').ex (P' := fun x o => (∃ t', x = .str "none" t') ∧ o = _) fun r o h => ⟨⟨t', h.1⟩, h.2⟩).ex fun r o h => ?_
    obtain ⟨R, x, o2', rfl, rfl, ⟨t', rfl⟩, rfl⟩ := h.p
    refine ⟨[_], _, rfl, ?_, da, dd, od, ?_, ?_⟩
    · unfold told; rw [if_neg (by decide), if_pos (.inl rfl), Option.not_isSome_iff_eq_none.mp hk]; exact ⟨R, t', rfl, rfl⟩
    · exact O0
    · exact p
theorem fifo_kind2 (I : OrdS w 882 "_FIFOCache__order" a mx kvs ks own) (hz : (kvs.length : Int) ≤ mx) (h8 : mx ≤ 8) : UseO w 882 "_FIFOCache__order" (fifoNext mx 2 key ks) a mx 2 key kvs ks own t t0 v := by
  obtain ⟨da, dd, od, O, p⟩ := I
  obtain ⟨nd1, nd2⟩ := ord_nodup O
  have hl := len_of_perm p
  have ol := okv_len (ks := ks)
  refine DoesF.of ?_
  have hp : ((without kvs key).map (·.1)).Perm (ks.filter (· ≠ key)) := by rw [without_keys]; exact p.filter _
  by_cases hk : (valueAt kvs key).isSome = true
  · have hm : key ∈ ks := (mem_of_perm p).mp hk
    obtain ⟨v1, hv1⟩ := some_of hk
    have S := fun t' => (fifo_pop_in (t := t) (v0 := .str "none" t') O hv1 (show (valueAt (okv ks) key).isSome = true by rw [okv_at, if_pos hm]; rfl) (by omega) (by omega)).dp (D' := 550) (U' := 4770) (by omega) (by omega)
    rw [okv_without] at S
    obtain ⟨n, t1, t2, t3, t4, t5, t6, o1, o2, rfl, hn, d1, d2, ha⟩ := O
    refine (fifo_use2 (t0 := t0) S).ex fun r o h => ?_
    obtain ⟨R, x, o2', rfl, rfl, rfl, O'⟩ := h.p
    refine ⟨[_], o2', rfl, ?_, da, dd, od, ?_, ?_⟩
    · unfold told; rw [if_neg (by decide), if_pos (.inr rfl), hv1]; exact ⟨R, rfl, rfl⟩
    · exact O'
    · exact hp
  · have hm : key ∉ ks := fun q => hk ((mem_of_perm p).mpr q)
    have S := fun t' => (fifo_pop_out (t := t) (t0 := t') (x := "none") O (isF hk)).dp (D' := 550) (U' := 4770) (by omega) (by omega)
    have O0 := O
    have e1 : without kvs key = kvs := without_of_not_mem _ _ fun q => hk (valueAt_mem.mpr q)
    have e2 : ks.filter (· ≠ key) = ks := filter_ne_self hm
    obtain ⟨n, t1, t2, t3, t4, t5, t6, o1, o2, rfl, hn, d1, d2, ha⟩ := O
    refine (fifo_use2 (t0 := t0) fun t' => (S t').ex (P' := fun x o => (∃ t', x = .str "none" t') ∧ o = _) fun r o h => ⟨⟨t', h.1⟩, h.2⟩).ex fun r o h => ?_
    obtain ⟨R, x, o2', rfl, rfl, ⟨t', rfl⟩, rfl⟩ := h.p
    refine ⟨[_], _, rfl, ?_, da, dd, od, ?_, ?_⟩
    · unfold told; rw [if_neg (by decide), if_pos (.inr rfl), Option.not_isSome_iff_eq_none.mp hk]; exact ⟨R, t', rfl, rfl⟩
    · show Ord _ _ _ _ _ _ _ _ (without kvs key) (okv (ks.filter (· ≠ key))) _
      rw [e1, e2]; exact O0
    · exact hp
theorem fifo_kind3 (I : OrdS w 882 "_FIFOCache__order" a mx kvs ks own) (hz : (kvs.length : Int) ≤ mx) (h8 : mx ≤ 8) : UseO w 882 "_FIFOCache__order" (fifoNext mx 3 key ks) a mx 3 key kvs ks own t t0 v := by
  obtain ⟨da, dd, od, O, p⟩ := I
  obtain ⟨nd1, nd2⟩ := ord_nodup O
  have hl := len_of_perm p
  have ol := okv_len (ks := ks)
  refine DoesF.of ?_
  have Sl := fifo_len O (by omega)
  have O0 := O
  cases ks with
  | nil =>
    have hn0 : kvs.length = 0 := by simp only [List.length_nil] at hl; omega
    obtain ⟨n, t1, t2, t3, t4, t5, t6, o1, o2, rfl, hn, d1, d2, ha⟩ := O
    rw [hn0] at Sl
    refine (fifo_use3n (t0 := t0) (k := key) (t := t) (v := v) Sl).ex fun r o h => ?_
    obtain ⟨R, rfl, rfl⟩ := h.p
    exact ⟨[_], _, rfl, ⟨R, rfl, rfl⟩, da, dd, od, O0, p⟩
  | cons k0 ks =>
    obtain ⟨v0, hv0⟩ := some_of ((mem_of_perm p).mpr (.head ks))
    have Sp := (fifo_popitem O (show (okv (k0 :: ks))[0]? = some (k0, .none) from rfl) hv0 (by omega) (by omega)).dp (D' := 550) (U' := 4770) (by omega) (by omega)
    rw [okv_without, filter_head nd2] at Sp
    simp only [List.length_cons] at hl
    obtain ⟨n, t1, t2, t3, t4, t5, t6, o1, o2, rfl, hn, d1, d2, ha⟩ := O
    refine (fifo_use3 (t0 := t0) (k := key) (t := t) (v := v) (by omega) (by omega) Sl Sp).ex fun r o h => ?_
    obtain ⟨R, x, o2', rfl, rfl, T, tk, own2, rfl, rfl, O'⟩ := h.p
    refine ⟨[_, _], own2, rfl, ?_, da, dd, od, O', ?_⟩
    · unfold told; rw [if_neg (by decide), if_neg (by decide)]; simp only [List.head?_cons, hv0]; exact ⟨R, T, tk, rfl, rfl⟩
    · show ((without kvs k0).map (·.1)).Perm ks
      rw [without_keys]
      have := p.filter (· ≠ k0)
      rwa [filter_head nd2] at this
theorem fifo_use (I : OrdS w 882 "_FIFOCache__order" a mx kvs ks own) (hz : (kvs.length : Int) ≤ mx) (h1 : 1 ≤ mx) (h8 : mx ≤ 8) (hkind : kind = 0 ∨ kind = 1 ∨ kind = 2 ∨ kind = 3) : UseO w 882 "_FIFOCache__order" (fifoNext mx kind key ks) a mx kind key kvs ks own t t0 v := by
  rcases hkind with rfl | rfl | rfl | rfl
  · exact fifo_kind0 I hz h1 h8
  · exact fifo_kind1 I hz h8
  · exact fifo_kind2 I hz h8
  · exact fifo_kind3 I hz h8
end
end
section
section
variable {w : World} {a : Nat} {mx kind key : Int} {kvs : List (Int × Value)} {sh : Sh} {own : List (Addr × Obj)} {t t0 : Tok} {v : Value}
abbrev UseL (w : World) (a : Nat) (mx kind key : Int) (kvs : List (Int × Value)) (sh : Sh) (own : List (Addr × Obj)) (t t0 : Tok) (v : Value) : Prop :=
  DoesF w 540 4500 1053 [.ref a, .int kind t0, .int key t, v] own (fun r o => ∃ X o2, o = X ++ o2 ∧ ToldIs (told kind key kvs (keysOf sh).head?) r X ∧ Lfu w a mx (dataNext mx kind key v (keysOf sh).head? kvs) (lfuNext mx kind key kvs.length sh) o2)
theorem sh_head {sh : Sh} (h : WF sh) : (sh = [] ∧ (keysOf sh).head? = none) ∨ ∃ c k0 ks sh', sh = (c, k0 :: ks) :: sh' ∧ (keysOf sh).head? = some k0 := by
  cases sh with
  | nil => exact .inl ⟨rfl, rfl⟩
  | cons q sh =>
    obtain ⟨c, ks⟩ := q
    cases ks with
    | nil => exact absurd rfl (h.ne _ (.head _)).1
    | cons k0 ks => exact .inr ⟨c, k0, ks, sh, rfl, rfl⟩
theorem lfu_kind0 (I : Lfu w a mx kvs sh own) (hz : (kvs.length : Int) ≤ mx) (h1 : 1 ≤ mx) (h8 : mx ≤ 8) : UseL w a mx 0 key kvs sh own t t0 v := by
  obtain ⟨da, dd, ld, rr, lk, ch, J, rfl, O⟩ := I
  refine DoesF.of ?_
  have fin : ∀ {kvs' : List (Int × Value)} {sh' : Sh}, Does w 550 4680 947 [.ref a, .int key t, v] own (fun r' own' => r' = .none ∧ ∃ lk' ch', LfuIs w a da dd ld rr mx kvs' lk' ch' own' ∧ shape ch' = sh' ∧ LfuOk kvs' lk' ch') →
      dataNext mx 0 key v (keysOf (shape ch)).head? kvs = kvs' → lfuNext mx 0 key kvs.length (shape ch) = sh' →
      Does w 540 4500 1053 [.ref a, .int 0 t0, .int key t, v] own (fun r o => ∃ X o2, o = X ++ o2 ∧ ToldIs (told 0 key kvs (keysOf (shape ch)).head?) r X ∧ Lfu w a mx (dataNext mx 0 key v (keysOf (shape ch)).head? kvs) (lfuNext mx 0 key kvs.length (shape ch)) o2) := by
    intro kvs' sh' S e1 e2
    obtain ⟨n, t1, t2, t3, t4, t5, t6, t7, o1, rest', rfl⟩ := J.whole
    refine (lfu_use0 (t0 := t0) (S.dp (D' := 550) (U' := 4600) (by omega) (by omega))).ex fun r o h => ?_
    obtain ⟨R, o2', rfl, rfl, lk', ch', J', hs, O'⟩ := h.p
    exact ⟨[_], o2', rfl, ⟨R, rfl, rfl⟩, da, dd, ld, rr, lk', ch', by rw [e1]; exact J', by rw [e2]; exact hs, by rw [e1]; exact O'⟩
  by_cases hk : (valueAt kvs key).isSome = true
  · have hm := O.mem.mp hk
    exact fin (h_set_old J O hk (by omega) h1) (by unfold dataNext; rw [if_pos rfl, if_pos (.inl hk)]) (by unfold lfuNext; rw [if_pos rfl, if_pos hm])
  · have hm : key ∉ keysOf (shape ch) := fun q => hk (O.mem.mpr q)
    by_cases hf : (kvs.length : Int) < mx
    · exact fin (h_set_new J O (isF hk) (by omega) hf) (by unfold dataNext; rw [if_pos rfl, if_pos (.inr hf)]) (by unfold lfuNext; rw [if_pos rfl, if_neg hm, if_pos hf])
    · rcases sh_head O.wf with ⟨e, -⟩ | ⟨c, k0, ks, sh', e, e'⟩
      · have := O.kks.length_eq
        rw [e] at this
        simp only [List.length_map, keysOf, List.flatMap_nil, List.length_nil] at this
        omega
      · have hk0 : (valueAt kvs k0).isSome = true := O.mem.mpr (by rw [e]; exact List.mem_append_left _ (.head _))
        obtain ⟨v0, hv0⟩ := some_of hk0
        refine fin (h_set_full J O e hv0 (isF hk) (by omega) (by omega) h1) ?_ ?_
        · unfold dataNext; rw [if_pos rfl, if_neg (by rintro (q | q); exact hk q; exact hf q), e']
        · unfold lfuNext; rw [if_pos rfl, if_neg hm, if_neg hf, e']
theorem tch_no {k : Int} {sh : Sh} (h : k ∉ keysOf sh) : tch k sh = sh := by
  have := tch_pre (p := sh) (s := []) h
  rwa [List.append_nil, show tch k [] = [] from rfl, List.append_nil] at this
theorem dch_no {k : Int} {sh : Sh} (h : k ∉ keysOf sh) : dch k sh = sh := by
  have := dch_pre (p := sh) (s := []) h
  rwa [List.append_nil, show dch k [] = [] from rfl, List.append_nil] at this
theorem lfu_kind1 (I : Lfu w a mx kvs sh own) (hz : (kvs.length : Int) ≤ mx) (h8 : mx ≤ 8) : UseL w a mx 1 key kvs sh own t t0 v := by
  obtain ⟨da, dd, ld, rr, lk, ch, J, rfl, O⟩ := I
  refine DoesF.of ?_
  have J0 := J
  by_cases hk : (valueAt kvs key).isSome = true
  · obtain ⟨v1, hv1⟩ := some_of hk
    have S := fun t' => (h_read_in (t := t) (v0 := .str "none" t') J O hv1 (by omega)).dp (D' := 550) (U' := 4780) (by omega) (by omega)
    obtain ⟨n, t1, t2, t3, t4, t5, t6, t7, o1, rest', rfl⟩ := J.whole
    refine (lfu_use1 (t0 := t0) S).ex fun r o h => ?_
    obtain ⟨R, x, o2', rfl, rfl, rfl, lk', ch', J', hs, O'⟩ := h.p
    refine ⟨[_], o2', rfl, ?_, da, dd, ld, rr, lk', ch', J', hs, O'⟩
    unfold told; rw [if_neg (by decide), if_pos (.inl rfl), hv1]; exact ⟨R, rfl, rfl⟩
  · have hm : key ∉ keysOf (shape ch) := fun q => hk (O.mem.mpr q)
    have S := fun t' => (h_read_out (k := key) (t := t) (v0 := .str "none" t') J (isF hk)).dp (D' := 550) (U' := 4780) (by omega) (by omega)
    obtain ⟨n, t1, t2, t3, t4, t5, t6, t7, o1, rest', rfl⟩ := J.whole
    refine (lfu_use1 (t0 := t0) fun t' => (S t').ex (P' := fun x o => (∃ t', x = .str "none" t') ∧ o = _) fun r o h => ⟨⟨t', h.1⟩, h.2⟩).ex fun r o h => ?_
    obtain ⟨R, x, o2', rfl, rfl, ⟨t', rfl⟩, rfl⟩ := h.p
    refine ⟨[_], _, rfl, ?_, da, dd, ld, rr, lk, ch, J0, (tch_no hm).symm, O⟩
    unfold told; rw [if_neg (by decide), if_pos (.inl rfl), Option.not_isSome_iff_eq_none.mp hk]; exact ⟨R, t', rfl, rfl⟩
theorem lfu_kind2 (I : Lfu w a mx kvs sh own) (hz : (kvs.length : Int) ≤ mx) (h8 : mx ≤ 8) : UseL w a mx 2 key kvs sh own t t0 v := by
  obtain ⟨da, dd, ld, rr, lk, ch, J, rfl, O⟩ := I
  refine DoesF.of ?_
  have J0 := J
  by_cases hk : (valueAt kvs key).isSome = true
  · obtain ⟨v1, hv1⟩ := some_of hk
    have S := fun t' => (h_pop_in (t := t) (v0 := .str "none" t') J O hv1 (by omega)).dp (D' := 550) (U' := 4770) (by omega) (by omega)
    obtain ⟨n, t1, t2, t3, t4, t5, t6, t7, o1, rest', rfl⟩ := J.whole
    refine (lfu_use2 (t0 := t0) S).ex fun r o h => ?_
    obtain ⟨R, x, o2', rfl, rfl, rfl, lk', ch', J', hs, O'⟩ := h.p
    refine ⟨[_], o2', rfl, ?_, da, dd, ld, rr, lk', ch', J', hs, O'⟩
    unfold told; rw [if_neg (by decide), if_pos (.inr rfl), hv1]; exact ⟨R, rfl, rfl⟩
  · have hm : key ∉ keysOf (shape ch) := fun q => hk (O.mem.mpr q)
    have S := fun t' => (h_pop_out (k := key) (t := t) (t0 := t') (x := "none") J (isF hk)).dp (D' := 550) (U' := 4770) (by omega) (by omega)
    have e1 : without kvs key = kvs := without_of_not_mem _ _ fun q => hk (valueAt_mem.mpr q)
    obtain ⟨n, t1, t2, t3, t4, t5, t6, t7, o1, rest', rfl⟩ := J.whole
    refine (lfu_use2 (t0 := t0) fun t' => (S t').ex (P' := fun x o => (∃ t', x = .str "none" t') ∧ o = _) fun r o h => ⟨⟨t', h.1⟩, h.2⟩).ex fun r o h => ?_
    obtain ⟨R, x, o2', rfl, rfl, ⟨t', rfl⟩, rfl⟩ := h.p
    have e2 : dataNext mx 2 key v (keysOf (shape ch)).head? kvs = kvs := e1
    refine ⟨[_], _, rfl, ?_, da, dd, ld, rr, lk, ch, by rw [e2]; exact J0, ?_, by rw [e2]; exact O⟩
    · unfold told; rw [if_neg (by decide), if_pos (.inr rfl), Option.not_isSome_iff_eq_none.mp hk]; exact ⟨R, t', rfl, rfl⟩
    · show _ = dch key (tch key (shape ch))
      rw [tch_no hm, dch_no hm]
theorem lfu_kind3 (I : Lfu w a mx kvs sh own) (hz : (kvs.length : Int) ≤ mx) (h8 : mx ≤ 8) : UseL w a mx 3 key kvs sh own t t0 v := by
  obtain ⟨da, dd, ld, rr, lk, ch, J, rfl, O⟩ := I
  refine DoesF.of ?_
  have J0 := J
  have Sl := h_len J (by omega)
  rcases sh_head O.wf with ⟨e, e'⟩ | ⟨c, k0, ks, sh', e, e'⟩
  · have hn0 : kvs.length = 0 := by
      have := O.kks.length_eq
      rw [e] at this
      simpa only [List.length_map, keysOf, List.flatMap_nil, List.length_nil] using this
    obtain ⟨n, t1, t2, t3, t4, t5, t6, t7, o1, rest', rfl⟩ := J.whole
    rw [hn0] at Sl
    refine (lfu_use3n (t0 := t0) (k := key) (t := t) (v := v) Sl).ex fun r o h => ?_
    obtain ⟨R, rfl, rfl⟩ := h.p
    refine ⟨[_], _, rfl, ?_, da, dd, ld, rr, lk, ch, ?_, ?_, ?_⟩
    · rw [e']; exact ⟨R, rfl, rfl⟩
    · rw [e']; exact J0
    · unfold lfuNext; rw [e']; rfl
    · rw [e']; exact O
  · obtain ⟨v0, hv0⟩ := some_of ((O.mem (k := k0)).mpr (by rw [e]; exact List.mem_append_left _ (.head _)))
    have Sp := (h_popitem J O e hv0 (by omega)).dp (D' := 550) (U' := 4770) (by omega) (by omega)
    have hp : 0 < kvs.length := by
      have := O.kks.length_eq
      rw [e, keysOf_cons, List.length_map, List.length_append, List.length_cons] at this
      omega
    obtain ⟨n, t1, t2, t3, t4, t5, t6, t7, o1, rest', rfl⟩ := J.whole
    refine (lfu_use3 (t0 := t0) (k := key) (t := t) (v := v) (by omega) (by omega) Sl Sp).ex fun r o h => ?_
    obtain ⟨R, x, o2', rfl, rfl, T, tk, own2, rfl, rfl, lk', ch', J', hs, O'⟩ := h.p
    have e2 : dataNext mx 3 key v (keysOf (shape ch)).head? kvs = without kvs k0 := by unfold dataNext; rw [e']; rfl
    refine ⟨[_, _], own2, rfl, ?_, da, dd, ld, rr, lk', ch', by rw [e2]; exact J', ?_, by rw [e2]; exact O'⟩
    · unfold told; rw [if_neg (by decide), if_neg (by decide), e']; simp only [hv0]; exact ⟨R, T, tk, rfl, rfl⟩
    · unfold lfuNext; rw [e']; exact hs
theorem lfu_use (I : Lfu w a mx kvs sh own) (hz : (kvs.length : Int) ≤ mx) (h1 : 1 ≤ mx) (h8 : mx ≤ 8) (hkind : kind = 0 ∨ kind = 1 ∨ kind = 2 ∨ kind = 3) : UseL w a mx kind key kvs sh own t t0 v := by
  rcases hkind with rfl | rfl | rfl | rfl
  · exact lfu_kind0 I hz h1 h8
  · exact lfu_kind1 I hz h8
  · exact lfu_kind2 I hz h8
  · exact lfu_kind3 I hz h8
end
end
section
/-- what the law asks of a cache of any class -/
structure Cch (w : World) (a C : Nat) (kvs : List (Int × Value)) (own : List (Addr × Obj)) : Prop where
  inst : ∃ ox od, ∀ h₀ L h, News h₀ L h own → PySem.W.InstAt h a ox C od
  noit : ∀ q ∈ own, q.2.cls ≠ .type "dict_keyiterator"
  len : Does w 600 5000 770 [.ref a] own (fun r o => (∃ tk, r = .int kvs.length tk) ∧ o = own)
  iter : Does w 600 5000 763 [.ref a] own (fun r o => ∃ I oI ep dd o1, r = .ref I ∧ o = (I, oI) :: own ∧ (dd, o1) ∈ own ∧ KdkIter oI dd 0 kvs.length ep ∧ KdkAt (PySem.intKind lawProg w) o1 kvs ep)
  has : ∀ k t, Does w 600 5000 749 [.ref a, .int k t] own (fun r o => r = .bool (valueAt kvs k).isSome ∧ o = own)
  nd : (kvs.map (·.1)).Nodup
theorem dict_ne : (Value.type "dict") ≠ .type "dict_keyiterator" := by decide
theorem dict_cls {w : World} {o : Obj} {kvs : List (Int × Value)} (d : o.IsDictOf (PySem.intKind lawProg w) kvs) : o.cls ≠ .type "dict_keyiterator" := by
  obtain ⟨es, ep, hx, -⟩ := d
  rw [hx.1]
  exact dict_ne
section
variable {w : World} {a : Nat} {mx : Int} {kvs : List (Int × Value)} {own : List (Addr × Obj)} {ks : List Int} {sh : Sh} {key k0 : Int} {t : Tok} {v0 : Value}
theorem lru_cch (I : OrdS w 1044 "_LRUCache__order" a mx kvs ks own) (hz : kvs.length ≤ 64) : Cch w a 1044 kvs own := by
  obtain ⟨da, dd, od, O, p⟩ := I
  refine ⟨?_, ?_, lru_len O hz, (lru_iter O).ex fun r o h => ?_, fun k t => lru_contains O, (ord_nodup O).1⟩
  · obtain ⟨n, t1, t2, t3, t4, t5, t6, o1, o2, rfl, hn, d1, d2, ha⟩ := O
    exact ⟨_, _, fun h₀ L h N => InstAt.of_news N (.head _) (.tail _ (.head _))⟩
  · obtain ⟨n, t1, t2, t3, t4, t5, t6, o1, o2, rfl, hn, d1, d2, ha⟩ := O
    intro q hq
    simp only [ordOwn, List.mem_cons, List.not_mem_nil, or_false] at hq
    rcases hq with rfl | rfl | rfl | rfl
    · exact fun e => by cases e
    · exact dict_ne
    · exact dict_cls d1
    · exact dict_cls d2
  · obtain ⟨I, oI, ep, o1, h1, h2, h3, h4, h5⟩ := h
    exact ⟨I, oI, ep, dd, o1, h1, h2, h3, h4, h5⟩
theorem fifo_cch (I : OrdS w 882 "_FIFOCache__order" a mx kvs ks own) (hz : kvs.length ≤ 64) : Cch w a 882 kvs own := by
  obtain ⟨da, dd, od, O, p⟩ := I
  refine ⟨?_, ?_, fifo_len O hz, (fifo_iter O).ex fun r o h => ?_, fun k t => fifo_contains O, (ord_nodup O).1⟩
  · obtain ⟨n, t1, t2, t3, t4, t5, t6, o1, o2, rfl, hn, d1, d2, ha⟩ := O
    exact ⟨_, _, fun h₀ L h N => InstAt.of_news N (.head _) (.tail _ (.head _))⟩
  · obtain ⟨n, t1, t2, t3, t4, t5, t6, o1, o2, rfl, hn, d1, d2, ha⟩ := O
    intro q hq
    simp only [ordOwn, List.mem_cons, List.not_mem_nil, or_false] at hq
    rcases hq with rfl | rfl | rfl | rfl
    · exact fun e => by cases e
    · exact dict_ne
    · exact dict_cls d1
    · exact dict_cls d2
  · obtain ⟨I, oI, ep, o1, h1, h2, h3, h4, h5⟩ := h
    exact ⟨I, oI, ep, dd, o1, h1, h2, h3, h4, h5⟩
theorem seg_cls {w : World} {q : Nat} : ∀ {p : Nat} {ch : List Lk} {own : List (Addr × Obj)}, Seg w q p ch own → ∀ x ∈ own, x.2.cls ≠ .type "dict_keyiterator"
  | _, [], _, h, x, hx => by rw [show _ = [] from h] at hx; cases hx
  | p, n :: ch, _, ⟨t, o, own', e, d, lo, S⟩, x, hx => by
    rw [e] at hx
    simp only [List.mem_cons] at hx
    rcases hx with rfl | rfl | rfl | hx
    · exact fun e => by cases e
    · exact dict_ne
    · exact dict_cls d
    · exact seg_cls S x hx
theorem lfu_cch (I : Lfu w a mx kvs sh own) (hz : kvs.length ≤ 64) : Cch w a 979 kvs own := by
  obtain ⟨da, dd, ld, rr, lk, ch, J, rfl, O⟩ := I
  refine ⟨?_, ?_, h_len J hz, h_iter J, fun k t => h_contains J, (List.Perm.nodup_iff O.kks).mpr O.wf.nd⟩
  · obtain ⟨n, t1, t2, t3, t4, t5, t6, t7, o1, rest', rfl⟩ := J.whole
    exact ⟨_, _, fun h₀ L h N => InstAt.of_news N (.head _) (.tail _ (.head _))⟩
  · obtain ⟨n0, t1, t2, t3, t4, t5, t6, t7, o1, o3, rd, rk, tr, seg, rfl, hn, d1, d3, lo1, lo3, Sg, hnd⟩ := J
    intro q hq
    simp only [lfuOwn3, List.mem_append, List.mem_cons, List.not_mem_nil, or_false] at hq
    rcases hq with (rfl | rfl | rfl) | rfl | rfl | rfl | hq
    · exact fun e => by cases e
    · exact dict_ne
    · exact dict_cls d1
    · exact dict_cls d3
    · exact fun e => by cases e
    · exact dict_ne
    · exact seg_cls Sg q hq
/-- one more reading, its answer thrown away -/
theorem lru_again (I : OrdS w 1044 "_LRUCache__order" a mx kvs ks own) (hz : (kvs.length : Int) ≤ 60) : Does w 550 4700 778 [.ref a, .int key t] own (fun r o => OrdS w 1044 "_LRUCache__order" a mx kvs (lruNext mx 1 key ks) o) := by
  obtain ⟨da, dd, od, O, p⟩ := I
  obtain ⟨nd1, nd2⟩ := ord_nodup O
  have hl := len_of_perm p
  have ol := okv_len (ks := ks)
  by_cases hk : (valueAt kvs key).isSome = true
  · have hm : key ∈ ks := (mem_of_perm p).mp hk
    obtain ⟨v1, hv1⟩ := some_of hk
    have S := (lru_again_in (t := t) O hv1 (show valueAt (okv ks) key = some .none by rw [okv_at, if_pos hm]) (by omega)).dp (D' := 550) (U' := 4700) (by omega) (by omega)
    rw [okv_touch] at S
    refine S.ex fun r o h => ⟨da, dd, od, ?_, ?_⟩
    · unfold lruNext; rw [if_neg (by decide), if_pos rfl, if_pos hm]; exact h.2
    · unfold lruNext; rw [if_neg (by decide), if_pos rfl, if_pos hm]; exact p.trans (perm_filter_add nd2 hm).symm
  · have hm : key ∉ ks := fun q => hk ((mem_of_perm p).mpr q)
    refine ((lru_again_out (t := t) O (isF hk)).dp (D' := 550) (U' := 4700) (by omega) (by omega)).ex fun r o h => ⟨da, dd, od, ?_, ?_⟩
    · unfold lruNext; rw [if_neg (by decide), if_pos rfl, if_neg hm, h.2]; exact O
    · unfold lruNext; rw [if_neg (by decide), if_pos rfl, if_neg hm]; exact p
theorem lfu_again (I : Lfu w a mx kvs sh own) (hz : (kvs.length : Int) ≤ 60) : Does w 550 4700 778 [.ref a, .int key t] own (fun r o => Lfu w a mx kvs (tch key sh) o) := by
  obtain ⟨da, dd, ld, rr, lk, ch, J, rfl, O⟩ := I
  by_cases hk : (valueAt kvs key).isSome = true
  · obtain ⟨v1, hv1⟩ := some_of hk
    have Sg := h_get (t := t) J O hv1 (by omega)
    obtain ⟨ob, o3, rest, rfl, B, d3, lo3, ap, -⟩ := J.open
    refine ((lfu_again_in B hk ap Sg).dp (D' := 550) (U' := 4700) (by omega) (by omega)).ex fun r o h => ?_
    obtain ⟨-, lk', ch', J', hs, O'⟩ := h
    exact ⟨da, dd, ld, rr, lk', ch', J', hs, O'⟩
  · have hm : key ∉ keysOf (shape ch) := fun q => hk (O.mem.mpr q)
    have J0 := J
    obtain ⟨ob, o3, rest, rfl, B, d3, lo3, ap, -⟩ := J.open
    refine ((lfu_again_out (t := t) B (isF hk) ap).dp (D' := 550) (U' := 4700) (by omega) (by omega)).ex fun r o h => ?_
    obtain ⟨-, rfl⟩ := h
    exact ⟨da, dd, ld, rr, lk, ch, J0, (tch_no hm).symm, O⟩
/-- the next one to go is taken out -/
abbrev Popped (T : Addr) (k0 : Int) (tk : Tok) (v0 : Value) : Addr × Obj := (T, { cls := .type "tuple", data := .seq #[.int k0 tk, v0] })
theorem lru_out (I : OrdS w 1044 "_LRUCache__order" a mx kvs (k0 :: ks) own) (hv : valueAt kvs k0 = some v0) (hz : (kvs.length : Int) ≤ 60) : Does w 550 4700 1027 [.ref a] own (fun r o => ∃ T tk o2, r = .ref T ∧ o = Popped T k0 tk v0 :: o2 ∧ OrdS w 1044 "_LRUCache__order" a mx (without kvs k0) ks o2) := by
  obtain ⟨da, dd, od, O, p⟩ := I
  obtain ⟨nd1, nd2⟩ := ord_nodup O
  have hl := len_of_perm p
  have ol := okv_len (ks := k0 :: ks)
  have Sp := (lru_popitem O (show (okv (k0 :: ks))[0]? = some (k0, .none) from rfl) hv (by omega) (by omega)).dp (D' := 550) (U' := 4700) (by omega) (by omega)
  rw [okv_without, filter_head nd2] at Sp
  refine Sp.ex fun r o h => ?_
  obtain ⟨T, tk, own2, rfl, rfl, O'⟩ := h
  refine ⟨T, tk, own2, rfl, rfl, da, dd, od, O', ?_⟩
  rw [without_keys]
  have := p.filter (· ≠ k0)
  rwa [filter_head nd2] at this
theorem fifo_out (I : OrdS w 882 "_FIFOCache__order" a mx kvs (k0 :: ks) own) (hv : valueAt kvs k0 = some v0) (hz : (kvs.length : Int) ≤ 60) : Does w 550 4700 872 [.ref a] own (fun r o => ∃ T tk o2, r = .ref T ∧ o = Popped T k0 tk v0 :: o2 ∧ OrdS w 882 "_FIFOCache__order" a mx (without kvs k0) ks o2) := by
  obtain ⟨da, dd, od, O, p⟩ := I
  obtain ⟨nd1, nd2⟩ := ord_nodup O
  have hl := len_of_perm p
  have ol := okv_len (ks := k0 :: ks)
  have Sp := (fifo_popitem O (show (okv (k0 :: ks))[0]? = some (k0, .none) from rfl) hv (by omega) (by omega)).dp (D' := 550) (U' := 4700) (by omega) (by omega)
  rw [okv_without, filter_head nd2] at Sp
  refine Sp.ex fun r o h => ?_
  obtain ⟨T, tk, own2, rfl, rfl, O'⟩ := h
  refine ⟨T, tk, own2, rfl, rfl, da, dd, od, O', ?_⟩
  rw [without_keys]
  have := p.filter (· ≠ k0)
  rwa [filter_head nd2] at this
theorem lfu_out (I : Lfu w a mx kvs sh own) (hk : (keysOf sh).head? = some k0) (hv : valueAt kvs k0 = some v0) (hz : (kvs.length : Int) ≤ 60) : Does w 550 4700 962 [.ref a] own (fun r o => ∃ T tk o2, r = .ref T ∧ o = Popped T k0 tk v0 :: o2 ∧ Lfu w a mx (without kvs k0) (dch k0 sh) o2) := by
  obtain ⟨da, dd, ld, rr, lk, ch, J, rfl, O⟩ := I
  rcases sh_head O.wf with ⟨e, e'⟩ | ⟨c, k1, ks, sh', e, e'⟩
  · rw [e'] at hk; cases hk
  · obtain rfl : k1 = k0 := Option.some.inj (e'.symm.trans hk)
    refine ((h_popitem J O e hv (by omega)).dp (D' := 550) (U' := 4700) (by omega) (by omega)).ex fun r o h => ?_
    obtain ⟨T, tk, own2, rfl, rfl, lk', ch', J', hs, O'⟩ := h
    exact ⟨T, tk, own2, rfl, rfl, da, dd, ld, rr, lk', ch', J', hs, O'⟩
theorem lru_new {t : Tok} (hmx : 1 ≤ mx) : Does w 590 4900 1044 [.int mx t] [] (fun r o => ∃ a : Nat, r = .ref a ∧ OrdS w 1044 "_LRUCache__order" a mx [] [] o) := by
  refine (lru_make hmx).ex fun r o h => ?_
  obtain ⟨a, da, dd, od, h1, h2⟩ := h
  exact ⟨a, h1, da, dd, od, h2, List.Perm.refl _⟩
theorem fifo_new {t : Tok} (hmx : 1 ≤ mx) : Does w 590 4900 882 [.int mx t] [] (fun r o => ∃ a : Nat, r = .ref a ∧ OrdS w 882 "_FIFOCache__order" a mx [] [] o) := by
  refine (fifo_make hmx).ex fun r o h => ?_
  obtain ⟨a, da, dd, od, h1, h2⟩ := h
  exact ⟨a, h1, da, dd, od, h2, List.Perm.refl _⟩
theorem lfu_new {t : Tok} (hmx : 1 ≤ mx) : Does w 590 4900 979 [.int mx t] [] (fun r o => ∃ a : Nat, r = .ref a ∧ Lfu w a mx [] [] o) := by
  refine (lfu_make hmx).ex fun r o h => ?_
  obtain ⟨a, dd, da, ld, rr, h1, h2⟩ := h
  exact ⟨a, h1, da, dd, ld, rr, [], [], h2, rfl, ⟨fun n hn => (by cases hn), List.Perm.refl _, List.Perm.refl _, ⟨List.nodup_nil, fun p hp => (by cases hp)⟩⟩⟩
theorem cch_sorted {D U : Nat} {s : Shared} {h₀ : Heap} {L : Addr} {m : Str → Option Value} {mean : ExcName → Option Value} {mg mb : Str → Option Value} {dp un : Nat} {gd : Option (List Code)} {fr : Option (List Env)} {E Q : Value → Shared → Prop} {rest : List (Addr × Obj)} {C : Nat}
    (Cc : Cch w a C kvs own) (hC : C = 1044 ∨ C = 979 ∨ C = 882) (F : Fr h₀ L s.heap m) (X : (hd.heap_39 w.params).In h₀) (N : News h₀ L s.heap (own ++ rest)) (ap : Apart own rest) (T : Top hd.view_39 lawLoose mean mg mb h₀) (hD : dp ≤ 600) (hU : un + 8 ≤ 5000) (hz : kvs.length < 64)
    (h : ∀ (B : Addr) vs ns c h' tk, Fr h₀ L h' m → News h₀ L h' ((B, PySem.W.listOf vs.toArray c) :: (own ++ rest)) → (∀ q ∈ own ++ rest, q.1 < B) → IntsAre vs ns → ns.Perm (kvs.map (·.1)) → ns.Pairwise (· ≤ ·) → Q (.ref B) { s with heap := h', toks := tk }) :
    wpAny (model lawProg w) (aTop dp un gd fr) (call (.builtin "sorted") [.ref a]) Q E s := by
  obtain ⟨ox, od, hi⟩ := Cc.inst
  rcases hC with rfl | rfl | rfl
  · exact own_sorted F X N ap T hD hU (fun h n => hi h₀ L h n) (by k_is) (by k_is) (by k_is) (by k_is) Cc.noit Cc.iter Cc.len hz h
  · exact own_sorted F X N ap T hD hU (fun h n => hi h₀ L h n) (by k_is) (by k_is) (by k_is) (by k_is) Cc.noit Cc.iter Cc.len hz h
  · exact own_sorted F X N ap T hD hU (fun h n => hi h₀ L h n) (by k_is) (by k_is) (by k_is) (by k_is) Cc.noit Cc.iter Cc.len hz h
end
end
section
def scale (o : Int) (sh : Sh) : Sh := sh.map fun p => (p.1 * o, p.2)
def touches (k : Int) : Nat → Sh → Sh
  | 0, sh => sh
  | n + 1, sh => touches k n (tch k sh)
/-- counts rise -/
def Rise (sh : Sh) : Prop := sh.Pairwise fun p q => p.1 < q.1
theorem keysOf_scale {o : Int} {sh : Sh} : keysOf (scale o sh) = keysOf sh := by
  induction sh with
  | nil => rfl
  | cons p sh ih => rw [show scale o (p :: sh) = (p.1 * o, p.2) :: scale o sh from rfl, keysOf_cons, keysOf_cons, ih]
theorem dch_scale {o k : Int} : ∀ {sh : Sh}, dch k (scale o sh) = scale o (dch k sh)
  | [] => rfl
  | (c, ks) :: sh => by
    show dch k ((c * o, ks) :: scale o sh) = _
    rw [dch, dch]
    split
    · split <;> rfl
    · rw [dch_scale]; rfl
theorem touches_pre {k : Int} {p : Sh} (h : k ∉ keysOf p) : ∀ (n : Nat) (s : Sh), touches k n (p ++ s) = p ++ touches k n s
  | 0, _ => rfl
  | n + 1, s => by rw [touches, touches, tch_pre h, touches_pre h n]
/-- a key alone in its link, touched: no link of the next counts in the way -/
theorem touches_alone {k : Int} : ∀ (n : Nat) (c : Int) (s : Sh), (∀ c' ks' s', s = (c', ks') :: s' → c + n < c') → touches k n ((c, [k]) :: s) = (c + n, [k]) :: s
  | 0, c, s, _ => by simp [touches]
  | n + 1, c, s, h => by
    have h1 : tch k ((c, [k]) :: s) = (c + 1, [k]) :: s := by
      rw [tch, if_pos (.head _)]
      cases s with
      | nil => simp [tchAt]
      | cons q s =>
        obtain ⟨c', ks'⟩ := q
        have := h c' ks' s rfl
        rw [tchAt, if_neg (by omega), if_pos (by simp)]
    rw [touches, h1, touches_alone n (c + 1) s (fun c' ks' s' e => by have := h c' ks' s' e; omega)]
    rw [show c + 1 + (n : Int) = c + ((n + 1 : Nat) : Int) by omega]
/-- the key's link comes to the count C and meets the rest -/
def meet (k C : Int) (s : Sh) : Sh := match s with
  | (c', ks') :: s' => if c' = C then (c', ks' ++ [k]) :: s' else (C, [k]) :: (c', ks') :: s'
  | [] => [(C, [k])]
theorem touches_meet {k : Int} (n : Nat) (c : Int) (s : Sh) (h : ∀ c' ks' s', s = (c', ks') :: s' → c + n + 1 ≤ c') : touches k (n + 1) ((c, [k]) :: s) = meet k (c + n + 1) s := by
  have split : ∀ (n : Nat) (t : Sh), touches k (n + 1) t = tch k (touches k n t) := by
    intro n
    induction n with
    | zero => intro t; rfl
    | succ n ih => intro t; rw [touches, ih]; rfl
  rw [split, touches_alone n c s (fun c' ks' s' e => by have := h c' ks' s' e; omega), tch, if_pos (.head _)]
  cases s with
  | nil => simp [tchAt, meet]
  | cons q s =>
    obtain ⟨c', ks'⟩ := q
    rw [tchAt, meet]
    split
    · rw [if_pos (by simp)]
    · rw [if_pos (by simp)]
theorem touches_no {k : Int} {sh : Sh} (h : k ∉ keysOf sh) : ∀ n, touches k n sh = sh
  | 0 => rfl
  | n + 1 => by rw [touches, tch_no h, touches_no h n]
theorem touches_scale {o k : Int} (ho : 2 ≤ o) : ∀ {sh : Sh}, (keysOf sh).Nodup → Rise sh → touches k o.toNat (scale o sh) = scale o (tch k sh)
  | [], _, _ => by
    rw [touches_no (by rw [keysOf_scale]; intro q; cases q)]; rfl
  | (c, ks) :: rest, nd, rise => by
    rw [keysOf_cons, List.nodup_append] at nd
    show touches k o.toNat ((c * o, ks) :: scale o rest) = _
    by_cases hk : k ∈ ks
    · rw [tch, if_pos hk]
      have hn : k ∉ ks.filter (· ≠ k) := by simp
      obtain ⟨n, hn2⟩ : ∃ n : Nat, o.toNat = n + 2 := ⟨o.toNat - 2, by omega⟩
      have hrest : ∀ c' ks' s', scale o rest = (c', ks') :: s' → c * o + o ≤ c' := by
        intro c' ks' s' e
        cases rest with
        | nil => cases e
        | cons q rest =>
          have e1 : q.1 * o = c' := congrArg (·.1) (List.cons.inj e).1
          have e2 : c < q.1 := (List.pairwise_cons.mp rise).1 q (.head _)
          have : (c + 1) * o ≤ q.1 * o := Int.mul_le_mul_of_nonneg_right (by omega) (by omega)
          rw [Int.add_mul] at this
          omega
      -- the first touch
      have first : tch k ((c * o, ks) :: scale o rest) = (if ks.filter (· ≠ k) = [] then [] else [(c * o, ks.filter (· ≠ k))]) ++ (c * o + 1, [k]) :: scale o rest := by
        have one : ks.filter (· ≠ k) = [] → ks = [k] := fun hf => by
          have := perm_filter_add nd.1 hk
          rw [hf, List.nil_append] at this
          exact List.perm_singleton.mp this.symm
        rw [tch, if_pos hk]
        cases e : scale o rest with
        | nil =>
          rw [tchAt]
          split
          · rename_i hf; rw [one hf]; rfl
          · rfl
        | cons q s =>
          obtain ⟨c', ks'⟩ := q
          have := hrest c' ks' s e
          rw [tchAt, if_neg (by omega)]
          split
          · rename_i hf; rw [one hf]; rfl
          · rfl
      have hp : k ∉ keysOf (if ks.filter (· ≠ k) = [] then [] else [(c * o, ks.filter (· ≠ k))]) := by
        split
        · intro q; cases q
        · rw [keysOf_cons]; simp [keysOf]
      rw [hn2, touches, first, touches_pre hp, touches_meet n (c * o + 1) (scale o rest) (fun c' ks' s' e => by have := hrest c' ks' s' e; omega)]
      rw [show c * o + 1 + (n : Int) + 1 = (c + 1) * o by rw [Int.add_mul]; omega]
      have one : ks.filter (· ≠ k) = [] → ks = [k] := fun hf => by
        have := perm_filter_add nd.1 hk
        rw [hf, List.nil_append] at this
        exact List.perm_singleton.mp this.symm
      cases rest with
      | nil =>
        rw [tchAt]
        split
        · rename_i hf; rw [one hf]; rfl
        · rfl
      | cons q rest =>
        obtain ⟨c', ks'⟩ := q
        rw [tchAt]
        show _ ++ (if c' * o = (c + 1) * o then _ else _) = _
        have hc : c' * o = (c + 1) * o ↔ c' = c + 1 := ⟨fun e => Int.eq_of_mul_eq_mul_right (by omega) e, fun e => by rw [e]⟩
        by_cases h1 : c' = c + 1
        · rw [if_pos (hc.mpr h1), if_pos h1]
          split <;> rfl
        · rw [if_neg (fun e => h1 (hc.mp e)), if_neg h1]
          split
          · rename_i hf; rw [one hf]; rfl
          · rfl
    · rw [show (c * o, ks) :: scale o rest = [(c * o, ks)] ++ scale o rest from rfl, touches_pre (by rw [keysOf_cons]; simpa [keysOf] using hk), touches_scale ho nd.2.1 (List.pairwise_cons.mp rise).2, tch, if_neg hk]
      rfl
theorem ich_scale {o k : Int} (ho : 2 ≤ o) {sh : Sh} (h1 : ∀ p ∈ sh, 1 ≤ p.1) : touches k (o.toNat - 1) (ich k (scale o sh)) = scale o (ich k sh) := by
  obtain ⟨n, hn2⟩ : ∃ n : Nat, o.toNat = n + 2 := ⟨o.toNat - 2, by omega⟩
  rw [hn2, show n + 2 - 1 = n + 1 from rfl]
  cases sh with
  | nil =>
    show touches k (n + 1) [(1, [k])] = scale o [(1, [k])]
    rw [touches_meet n 1 [] (fun _ _ _ e => by cases e)]
    show [((1 : Int) + n + 1, [k])] = [((1 : Int) * o, [k])]
    rw [show (1 : Int) + n + 1 = 1 * o by omega]
  | cons q rest =>
    obtain ⟨c, ks⟩ := q
    have hc : 1 ≤ c := h1 _ (.head _)
    have hco : o ≤ c * o := by
      have := Int.mul_le_mul_of_nonneg_right hc (show 0 ≤ o by omega)
      omega
    show touches k (n + 1) (ich k ((c * o, ks) :: scale o rest)) = scale o (ich k ((c, ks) :: rest))
    rw [ich, if_neg (by omega), touches_meet n 1 _ (fun c' ks' s' e => by have e1 : c * o = c' := congrArg (·.1) (List.cons.inj e).1; omega)]
    rw [show (1 : Int) + n + 1 = o by omega, ich, meet]
    by_cases h : c = 1
    · rw [if_pos (by rw [h]; omega), if_pos h]; rfl
    · have : c * o ≠ o := fun e => h (Int.eq_of_mul_eq_mul_right (a := o) (by omega) (by rw [e]; omega))
      rw [if_neg this, if_neg h]
      show _ = (1 * o, [k]) :: (c * o, ks) :: scale o rest
      rw [Int.one_mul]
theorem dch_tch {k : Int} : ∀ {sh : Sh}, (keysOf sh).Nodup → (∀ p ∈ sh, p.2 ≠ []) → dch k (tch k sh) = dch k sh
  | [], _, _ => rfl
  | (c, ks) :: rest, nd, ne => by
    rw [keysOf_cons, List.nodup_append] at nd
    by_cases hk : k ∈ ks
    · have hr : k ∉ keysOf rest := fun q => nd.2.2 k hk k q rfl
      have hn : k ∉ ks.filter (· ≠ k) := by simp
      rw [tch, if_pos hk]
      cases rest with
      | nil =>
        rw [tchAt]
        split
        · rename_i hf; rw [dch, if_pos hk, if_pos hf, dch, if_pos hk, if_pos hf]
        · rename_i hf; rw [dch, if_neg hn, dch, if_pos (.head _), if_pos (by simp), dch, if_pos hk, if_neg hf]
      | cons q rest =>
        obtain ⟨c', ks'⟩ := q
        have hk' : k ∉ ks' := fun e => hr (by rw [keysOf_cons]; exact List.mem_append_left _ e)
        have hf' : (ks' ++ [k]).filter (· ≠ k) = ks' := by rw [List.filter_append, filter_ne_self hk']; simp
        have hne : ks' ≠ [] := ne (c', ks') (.tail _ (.head _))
        rw [tchAt]
        by_cases h1 : c' = c + 1
        · rw [if_pos h1]
          split
          · rename_i hf
            rw [dch, if_pos (by simp), hf', if_neg hne, dch, if_pos hk, if_pos hf]
          · rename_i hf
            rw [dch, if_neg hn, dch, if_pos (by simp), hf', if_neg hne, dch, if_pos hk, if_neg hf]
        · rw [if_neg h1]
          split
          · rename_i hf; rw [dch, if_pos hk, if_pos hf, dch, if_pos hk, if_pos hf]
          · rename_i hf; rw [dch, if_neg hn, dch, if_pos (.head _), if_pos (by simp), dch, if_pos hk, if_neg hf]
    · rw [tch, if_neg hk, dch, if_neg hk, dch, if_neg hk, dch_tch nd.2.1 fun p hp => ne p (.tail _ hp)]
end
section
theorem rise_cons {c : Int} {ks : List Int} {sh : Sh} : Rise ((c, ks) :: sh) ↔ (∀ p ∈ sh, c < p.1) ∧ Rise sh := List.pairwise_cons
theorem low_tchAt {b k c : Int} {ks : List Int} {rest : Sh} (hc : b < c) (h : ∀ p ∈ rest, b < p.1) : ∀ p ∈ tchAt k c ks rest, b < p.1 := by
  intro p hp
  cases rest with
  | nil =>
    rw [tchAt] at hp
    split at hp <;> simp only [List.mem_cons, List.not_mem_nil, or_false] at hp
    · subst hp; show b < c + 1; omega
    · rcases hp with rfl | rfl
      · exact hc
      · show b < c + 1; omega
  | cons q rest =>
    obtain ⟨c', ks'⟩ := q
    have h1 : b < c' := h _ (.head _)
    rw [tchAt] at hp
    split at hp
    · split at hp <;> simp only [List.mem_cons] at hp
      · rcases hp with rfl | hp
        · exact h1
        · exact h p (.tail _ hp)
      · rcases hp with rfl | rfl | hp
        · exact hc
        · exact h1
        · exact h p (.tail _ hp)
    · split at hp <;> simp only [List.mem_cons] at hp
      · rcases hp with rfl | rfl | hp
        · show b < c + 1; omega
        · exact h1
        · exact h p (.tail _ hp)
      · rcases hp with rfl | rfl | rfl | hp
        · exact hc
        · show b < c + 1; omega
        · exact h1
        · exact h p (.tail _ hp)
theorem low_tch {b k : Int} : ∀ {sh : Sh}, (∀ p ∈ sh, b < p.1) → ∀ p ∈ tch k sh, b < p.1
  | [], h => h
  | (c, ks) :: rest, h => by
    rw [tch]
    split
    · exact low_tchAt (h _ (.head _)) fun p hp => h p (.tail _ hp)
    · intro p hp
      rcases List.mem_cons.mp hp with rfl | hp
      · exact h _ (.head _)
      · exact low_tch (fun p hp => h p (.tail _ hp)) p hp
theorem rise_tch {k : Int} : ∀ {sh : Sh}, Rise sh → Rise (tch k sh)
  | [], h => h
  | (c, ks) :: rest, h => by
    obtain ⟨h1, h2⟩ := rise_cons.mp h
    rw [tch]
    split
    · cases rest with
      | nil =>
        rw [tchAt]
        split
        · exact rise_cons.mpr ⟨fun p hp => (by cases hp), List.Pairwise.nil⟩
        · refine rise_cons.mpr ⟨fun p hp => ?_, rise_cons.mpr ⟨fun p hp => (by cases hp), List.Pairwise.nil⟩⟩
          rw [List.mem_singleton.mp hp]; show c < c + 1; omega
      | cons q rest =>
        obtain ⟨c', ks'⟩ := q
        obtain ⟨g1, g2⟩ := rise_cons.mp h2
        have hcc : c < c' := h1 _ (.head _)
        rw [tchAt]
        split
        · split
          · exact rise_cons.mpr ⟨g1, g2⟩
          · refine rise_cons.mpr ⟨fun p hp => ?_, rise_cons.mpr ⟨g1, g2⟩⟩
            rcases List.mem_cons.mp hp with rfl | hp
            · exact hcc
            · exact h1 p (.tail _ hp)
        · have hc1 : c + 1 < c' := by omega
          have r : Rise ((c + 1, [k]) :: (c', ks') :: rest) := rise_cons.mpr ⟨fun p hp => by
            rcases List.mem_cons.mp hp with rfl | hp
            · exact hc1
            · have := g1 p hp; omega, rise_cons.mpr ⟨g1, g2⟩⟩
          split
          · exact rise_cons.mpr (rise_cons.mp r)
          · refine rise_cons.mpr ⟨fun p hp => ?_, r⟩
            rcases List.mem_cons.mp hp with rfl | hp
            · show c < c + 1; omega
            · exact h1 p hp
    · exact rise_cons.mpr ⟨low_tch h1, rise_tch h2⟩
theorem low_dch {b k : Int} : ∀ {sh : Sh}, (∀ p ∈ sh, b < p.1) → ∀ p ∈ dch k sh, b < p.1
  | [], h => h
  | (c, ks) :: rest, h => by
    rw [dch]
    split
    · split
      · exact fun p hp => h p (.tail _ hp)
      · intro p hp
        rcases List.mem_cons.mp hp with rfl | hp
        · exact h (c, ks) (List.Mem.head rest)
        · exact h p (.tail _ hp)
    · intro p hp
      rcases List.mem_cons.mp hp with rfl | hp
      · exact h _ (.head _)
      · exact low_dch (fun p hp => h p (.tail _ hp)) p hp
theorem rise_dch {k : Int} : ∀ {sh : Sh}, Rise sh → Rise (dch k sh)
  | [], h => h
  | (c, ks) :: rest, h => by
    obtain ⟨h1, h2⟩ := rise_cons.mp h
    rw [dch]
    split
    · split
      · exact h2
      · exact rise_cons.mpr ⟨h1, h2⟩
    · exact rise_cons.mpr ⟨low_dch h1, rise_dch h2⟩
theorem rise_ich {k : Int} {sh : Sh} (h0 : ∀ p ∈ sh, 1 ≤ p.1) (h : Rise sh) : Rise (ich k sh) := by
  cases sh with
  | nil => exact rise_cons.mpr ⟨fun p hp => (by cases hp), List.Pairwise.nil⟩
  | cons q rest =>
    obtain ⟨c, ks⟩ := q
    have hc : 1 ≤ c := h0 _ (.head _)
    obtain ⟨h1, h2⟩ := rise_cons.mp h
    rw [ich]
    split
    · exact rise_cons.mpr ⟨h1, h2⟩
    · refine rise_cons.mpr ⟨fun p hp => ?_, h⟩
      rcases List.mem_cons.mp hp with rfl | hp
      · show 1 < c; omega
      · have := h1 p hp; omega
/-- the two LFU caches of the law, after a deed and the readings that make it up -/
theorem lfu_pair {o mx kind key : Int} {len : Nat} {sh : Sh} (ho : 2 ≤ o) (W : WF sh) (R : Rise sh) (hkind : kind = 0 ∨ kind = 1 ∨ kind = 2 ∨ kind = 3) (hs : kind = 0 → key ∉ keysOf sh → (len : Int) < mx ∨ sh ≠ []) :
    (if kind < 2 then touches key (o.toNat - 1) (lfuNext mx kind key len (scale o sh)) else lfuNext mx kind key len (scale o sh)) = scale o (lfuNext mx kind key len sh) := by
  have pred : ∀ t : Sh, touches key (o.toNat - 1) (tch key t) = touches key o.toNat t := fun t => by
    obtain ⟨n, hn⟩ : ∃ n : Nat, o.toNat = n + 1 := ⟨o.toNat - 1, by omega⟩
    rw [hn]; rfl
  have h1 : ∀ {t : Sh}, (∀ p ∈ t, p.2 ≠ [] ∧ 1 ≤ p.1) → ∀ p ∈ t, 1 ≤ p.1 := fun h p hp => (h p hp).2
  rcases hkind with rfl | rfl | rfl | rfl
  · rw [if_pos (by decide)]
    unfold lfuNext
    rw [if_pos rfl, if_pos rfl, keysOf_scale]
    by_cases hm : key ∈ keysOf sh
    · rw [if_pos hm, if_pos hm, pred, touches_scale ho W.nd R]
    · rw [if_neg hm, if_neg hm]
      by_cases hl : (len : Int) < mx
      · rw [if_pos hl, if_pos hl, ich_scale ho (h1 W.ne)]
      · rw [if_neg hl, if_neg hl]
        cases e : (keysOf sh).head? with
        | none => exact ich_scale ho (h1 W.ne)
        | some k0 =>
          dsimp only
          rw [dch_scale, ich_scale ho]
          intro p hp
          have := low_dch (b := 0) (k := k0) (sh := sh) (fun p hp => by have := (W.ne p hp).2; omega) p hp
          omega
  · rw [if_pos (by decide)]
    show touches key (o.toNat - 1) (tch key (scale o sh)) = scale o (tch key sh)
    rw [pred, touches_scale ho W.nd R]
  · rw [if_neg (by decide)]
    show dch key (tch key (scale o sh)) = scale o (dch key (tch key sh))
    rw [dch_tch (by rw [keysOf_scale]; exact W.nd) (fun p hp => by obtain ⟨q, hq, rfl⟩ := List.mem_map.mp hp; exact (W.ne q hq).1), dch_tch W.nd (fun p hp => (W.ne p hp).1), dch_scale]
  · rw [if_neg (by decide)]
    unfold lfuNext
    rw [if_neg (by decide), if_neg (by decide), if_neg (by decide), if_neg (by decide), if_neg (by decide), if_neg (by decide), keysOf_scale]
    cases (keysOf sh).head? with
    | none => rfl
    | some k0 => exact dch_scale
theorem lfu_rise {mx kind key : Int} {len : Nat} {sh : Sh} (W : WF sh) (R : Rise sh) : Rise (lfuNext mx kind key len sh) := by
  unfold lfuNext
  split
  · split
    · exact rise_tch R
    · split
      · exact rise_ich (fun p hp => (W.ne p hp).2) R
      · split
        · refine rise_ich (fun p hp => ?_) (rise_dch R)
          have := low_dch (b := 0) (sh := sh) (fun p hp => by have := (W.ne p hp).2; omega) p hp
          omega
        · exact rise_ich (fun p hp => (W.ne p hp).2) R
  · split
    · exact rise_tch R
    · split
      · exact rise_dch (rise_tch R)
      · split
        · exact rise_dch R
        · exact R
end
section
section
variable {w : World} {a : Nat} {mx : Int} {kvs : List (Int × Value)} {own : List (Addr × Obj)} {ks : List Int} {sh : Sh}
theorem lru_inst (I : OrdS w 1044 "_LRUCache__order" a mx kvs ks own) : CInst a 1044 own := by
  obtain ⟨da, dd, od, ⟨n, t1, t2, t3, t4, t5, t6, o1, o2, rfl, hn, d1, d2, ha⟩, p⟩ := I
  exact ⟨_, _, _, .head _, .tail _ (.head _), by rfl, by rfl⟩
theorem fifo_inst (I : OrdS w 882 "_FIFOCache__order" a mx kvs ks own) : CInst a 882 own := by
  obtain ⟨da, dd, od, ⟨n, t1, t2, t3, t4, t5, t6, o1, o2, rfl, hn, d1, d2, ha⟩, p⟩ := I
  exact ⟨_, _, _, .head _, .tail _ (.head _), by rfl, by rfl⟩
theorem lfu_inst (I : Lfu w a mx kvs sh own) : CInst a 979 own := by
  obtain ⟨da, dd, ld, rr, lk, ch, J, rfl, O⟩ := I
  obtain ⟨n, t1, t2, t3, t4, t5, t6, t7, o1, rest', rfl⟩ := J.whole
  exact ⟨_, _, _, .head _, .tail _ (.head _), by rfl, by rfl⟩
end
section
variable {w : World} {a C : Nat} {kvs : List (Int × Value)} {own : List (Addr × Obj)} {pre post : List (List (Addr × Obj))}
  {h₀ : Heap} {L : Addr} {m : Str → Option Value} {mean : ExcName → Option Value} {mg mb : Str → Option Value} {s : Shared} {dp un : Nat} {gd : Option (List Code)} {fr : Option (List Env)} {Q E : Value → Shared → Prop}
theorem blk_sorted (Cc : Cch w a C kvs own) (hC : C = 1044 ∨ C = 979 ∨ C = 882) (F : Fr h₀ L s.heap m) (X : (hd.heap_39 w.params).In h₀) (B : Blk h₀ L s.heap (pre ++ own :: post)) (T : Top hd.view_39 lawLoose mean mg mb h₀) (hD : dp ≤ 600) (hU : un + 8 ≤ 5000) (hz : kvs.length < 64)
    (h : ∀ (D : Addr) vs ns c h' tk, Fr h₀ L h' m → Blk h₀ L h' ([(D, PySem.W.listOf vs.toArray c)] :: (pre ++ own :: post)) → IntsAre vs ns → ns.Perm (kvs.map (·.1)) → ns.Pairwise (· ≤ ·) → Q (.ref D) { s with heap := h', toks := tk }) :
    wpAny (model lawProg w) (aTop dp un gd fr) (call (.builtin "sorted") [.ref a]) Q E s := by
  have B' := B.front
  refine cch_sorted (D := 0) (U := 0) Cc hC F X B'.1 B'.apartAll T hD hU hz fun D vs ns c h' tk F' N' hl hI hp hs => h D vs ns c h' tk F' ?_ hI hp hs
  have B2 : Blk h₀ L h' ([(D, PySem.W.listOf vs.toArray c)] :: own :: (pre ++ post)) := B'.cons N' (apart_ofNe fun p hp q hq => by
    rw [List.mem_singleton.mp hp]
    exact (Nat.ne_of_lt (hl q hq)).symm)
  exact B2.perm (List.Perm.cons _ List.perm_middle.symm)
theorem blk_len (Cc : Cch w a C kvs own) (hC : C = 1044 ∨ C = 979 ∨ C = 882) (F : Fr h₀ L s.heap m) (X : (hd.heap_39 w.params).In h₀) (B : Blk h₀ L s.heap (pre ++ own :: post)) (T : Top hd.view_39 lawLoose mean mg mb h₀) (hD : dp ≤ 600) (hU : un + 8 ≤ 5000) (hz : kvs.length < 64)
    (h : ∀ h' tk' tl, Fr h₀ L h' m → Blk h₀ L h' (pre ++ own :: post) → Q (.int kvs.length tl) { s with heap := h', toks := tk' }) :
    wpAny (model lawProg w) (aTop dp un gd fr) (call (.builtin "len") [.ref a]) Q E s := by
  obtain ⟨ox, od, hi⟩ := Cc.inst
  have go : ∀ {C : Nat}, PySem.W.InstAt s.heap a ox C od → findIn (hd.heap_39 w.params) (.ref C) "__len__" = some (some (.ref 770)) → isFn (hd.heap_39 w.params) (.ref 770) = true → wpAny (model lawProg w) (aTop dp un gd fr) (call (.builtin "len") [.ref a]) Q E s := by
    intro C I hs hf
    refine len_K F X I hs hf ?_
    show wpAny (model lawProg w) (aTop dp (un + 1) gd fr) _ _ _ _
    refine blk_use Cc.len F X B T hD (by omega) fun v own' h' tk' F' B' P' => ?_
    obtain ⟨⟨tl, rfl⟩, rfl⟩ := P'
    exact ⟨⟨by omega, by omega⟩, h _ _ _ F' B'⟩
  have I := hi h₀ L s.heap B.mem
  rcases hC with rfl | rfl | rfl
  · exact go I (by k_is) (by k_is)
  · exact go I (by k_is) (by k_is)
  · exact go I (by k_is) (by k_is)
theorem blk_notIn {k : Int} {t : Tok} (Cc : Cch w a C kvs own) (hC : C = 1044 ∨ C = 979 ∨ C = 882) (F : Fr h₀ L s.heap m) (X : (hd.heap_39 w.params).In h₀) (B : Blk h₀ L s.heap (pre ++ own :: post)) (T : Top hd.view_39 lawLoose mean mg mb h₀) (hD : dp ≤ 600) (hU : un + 8 ≤ 5000)
    (h : ∀ h' tk', Fr h₀ L h' m → Blk h₀ L h' (pre ++ own :: post) → Q (.bool (!(valueAt kvs k).isSome)) { s with heap := h', toks := tk' }) :
    wpAny (model lawProg w) (aTop dp un gd fr) (compareOp .NotIn (.int k t) (.ref a)) Q E s := by
  obtain ⟨ox, od, hi⟩ := Cc.inst
  have go : ∀ {C : Nat}, PySem.W.InstAt s.heap a ox C od → findIn (hd.heap_39 w.params) (.ref C) "__contains__" = some (some (.ref 749)) → isFn (hd.heap_39 w.params) (.ref 749) = true → wpAny (model lawProg w) (aTop dp un gd fr) (compareOp .NotIn (.int k t) (.ref a)) Q E s := by
    intro C I hs hf
    refine notIn_K F X I hs hf ?_
    refine blk_use (Cc.has k t) F X B T hD (by omega) fun v own' h' tk' F' B' P' => ?_
    obtain ⟨rfl, rfl⟩ := P'
    exact wpAny_pure (h _ _ F' B')
  have I := hi h₀ L s.heap B.mem
  rcases hC with rfl | rfl | rfl
  · exact go I (by k_is) (by k_is)
  · exact go I (by k_is) (by k_is)
  · exact go I (by k_is) (by k_is)
end
end
section
theorem blk_pop0 {prog : Program} {w : World} {A : Around} {E : Value → Shared → Prop} {s : Shared} {h₀ : Heap} {L D : Nat} {m : Str → Option Value} {bs : List (List (Addr × Obj))} {y : Value} {q : List Value} {n : Nat} {u : Tok} {Q : Value → Shared → Prop}
    (F : Fr h₀ L s.heap m) (B : Blk h₀ L s.heap ([(D, PySem.W.listOf (y :: q).toArray n)] :: bs)) (hz : q.length ≤ 60)
    (h : ∀ h', Fr h₀ L h' m → Blk h₀ L h' ([(D, PySem.W.listOf q.toArray (n + 1))] :: bs) → Q y { s with heap := h' }) : wpAny (model prog w) A (call (.builtin "list.pop") [.ref D, .int 0 u]) Q E s := by
  have hne : ∀ p ∈ bs.flatten, p.1 ≠ D := fun p hp e => B.apartAll.at p hp (by rw [e]; exact .head _)
  refine kl_popAt (n := n) (its := (y :: q).toArray) (k := 0) (p := []) (y := y) (q := q) (news' := ([(D, PySem.W.listOf q.toArray (n + 1))] :: bs).flatten) F B.1 rfl ?_ rfl ?_ ?_ fun h' F' N' => h h' F' (B.redo (pre := []) N' rfl)
  · rw [List.size_toArray, List.length_cons]
    simp [seqIndex?]
    try omega
  · exact .head hne
  · show (y :: q).length ≤ _
    rw [List.length_cons, sizeLine_eq]; omega
/-- a while's body -/
def theWhile : List Stmt → List Stmt
  | .While _ b _ _ :: _ => b
  | _ :: r => theWhile r
  | [] => []
/-- a while's test -/
def theTest : List Stmt → PySem.Expr
  | .While t _ _ _ :: _ => t
  | _ :: r => theTest r
  | [] => .Name "" ⟨0, 0, 0, 0⟩
end
section
def IsLaw (w : World) (body : List Stmt) (scope : Scope) : Prop := ∃ name qual params dV kV doc pm an cdv ct oc od osl, (hd.heap_39 w.params).lookup 1058 = some ⟨oc, od, .func (fnOf name qual params body scope dV kV doc pm an cdv ct), osl⟩
theorem IsLaw.same {w : World} {body body' : List Stmt} {scope scope' : Scope} {name qual : Str} {params : Arguments} {dV kV doc pm cdv ct oc : Value} {an od : Option Addr} {osl : Array (Option Value)} (h : IsLaw w body scope)
    (e : (hd.heap_39 w.params).lookup 1058 = some ⟨oc, od, .func (fnOf name qual params body' scope' dV kV doc pm an cdv ct), osl⟩) : body = body' ∧ scope = scope' := by
  obtain ⟨_, _, _, _, _, _, _, _, _, _, _, _, _, h⟩ := h
  have q := Option.some.inj (h.symm.trans e)
  injection q with q1 q2 q3 q4
  injection q3 with q3
  injection q3 with a1 a2 a3 a4 a5 a6
  injection a4 with a4
  exact ⟨a4, a5⟩
def lastN (p : Int) (l : List Int) : List Int := l.drop (l.length - p.toNat)
/-- the turn of the law's loop -/
def theFor : List Stmt → List Stmt
  | .For _ _ b _ _ :: _ => b
  | _ :: r => theFor r
  | [] => []
end
section
abbrev kindOf (ns : List Int) (k : Int) : Int := [0, 0, 0, 0, 1, 1, 1, 1, 2, 3].getD ((ns.getD k.toNat 0).fmod 10).toNat 0
abbrev keyOf (ns : List Int) (k : Int) : Int := (ns.getD (k + 1).toNat 0).fmod 6
section
variable {w : World} {body : List Stmt} {scope : Scope} {h₀ : Heap} {L a : Addr} {cd : Value} {m : Str → Option Value} {mean : ExcName → Option Value} {mg mb : Str → Option Value} {s : Shared} {dp un : Nat} {gd : Option (List Code)} {E : Value → Shared → Prop} {rest : List (Addr × Obj)} {oc : Obj} {oco : Option Value} {nm : Addr} {vs : List Value} {ns : List Int} {k : Int} {t : Tok} {c : Nat}
set_option maxHeartbeats 400000 in
theorem turn_key (hb : IsLaw w body scope) (F : Fr h₀ L s.heap m) (X : (hd.heap_39 w.params).In h₀) (T : Top hd.view_39 lawLoose mean mg mb h₀) (N : News h₀ L s.heap ((L + 1, oc) :: (nm, PySem.W.listOf vs.toArray c) :: rest)) (ho : oc.data = .cell oco) (hI : IntsAre vs ns)
    (hap : @Ne Nat (L + 1) nm) (har : ∀ p ∈ rest, @Ne Nat p.1 (L + 1))
    (hm1 : m "numbers" = some (.ref nm)) (hm2 : m "k" = some (.int k t)) (hk : 2 ≤ k) (hk2 : k + 1 < ns.length) (hz : ns.length ≤ 63) :
    wpAny (model lawProg w) ((aTop dp un gd (some [])).deeper (envOfC "law" scope L a cd)) (execs ((theFor body).take 2) (envOfC "law" scope L a cd))
      (fun f s' => Done (f = .next ∧ ∃ h' tk' oc' tk1 tk2, s' = { s with heap := h', toks := tk' } ∧ Fr h₀ L h' (fun y => if y = "kind" then some (.int (kindOf ns k) tk1) else m y) ∧ News h₀ L h' ((L + 1, oc') :: (nm, PySem.W.listOf vs.toArray c) :: rest) ∧ oc'.data = .cell (some (.int (keyOf ns k) tk2)))) E s := by
  have pt0 : Part 0 := .mk
  have pt10 : Part 10 := .mk
  obtain ⟨rfl, rfl⟩ := hb.same (by k_is)
  simp only [theFor, List.take]
  w_on
  clear hb
  k_steps
  exact ⟨rfl, _, _, _, _, _, rfl, by k_asm, news_drop (by k_asm), by assumption⟩
end
end
section
section
variable {w : World} {body : List Stmt} {scope : Scope} {h₀ : Heap} {L a : Addr} {cd : Value} {m : Str → Option Value} {mean : ExcName → Option Value} {mg mb : Str → Option Value} {s : Shared} {dp un : Nat} {gd : Option (List Code)} {E : Value → Shared → Prop} {rest : List (Addr × Obj)} {oc : Obj} {od : Addr} {vs : List Value} {os : List Int} {key p : Int} {t tk tp : Tok} {c : Nat}
set_option maxHeartbeats 600000 in
theorem turn_order0 (hb : IsLaw w body scope) (F : Fr h₀ L s.heap (fun y => if y = "order" then some (.ref od) else if y = "kind" then some (.int 0 t) else if y = "places" then some (.int p tp) else m y)) (X : (hd.heap_39 w.params).In h₀) (T : Top hd.view_39 lawLoose mean mg mb h₀) (N : News h₀ L s.heap ((L + 1, oc) :: (od, PySem.W.listOf vs.toArray c) :: rest)) (ho : oc.data = .cell (some (.int key tk))) (hI : IntsAre vs os)
    (hap : @Ne Nat (L + 1) od)
    (hp : 1 ≤ p) (hp2 : p ≤ 8) (hz : os.length ≤ 8) :
    wpAny (model lawProg w) ((aTop dp un gd (some [])).deeper (envOfC "law" scope L a cd)) (execs (((theFor body).drop 2).take 2) (envOfC "law" scope L a cd))
      (fun f s' => Done (f = .next ∧ ∃ (h' : Heap) (tk' : Nat) (D : Nat) (vs' : List Value) (c' : Nat) (m' : Str → Option Value), s' = { s with heap := h', toks := tk' } ∧ Fr h₀ L h' m' ∧ m' "order" = some (.ref D) ∧ (∀ y : Str, y ≠ "order" → m' y = (fun y : Str => if y = "order" then some (Value.ref od) else if y = "kind" then some (.int 0 t) else if y = "places" then some (.int p tp) else m y) y) ∧ News h₀ L h' ((D, PySem.W.listOf vs'.toArray c') :: (L + 1, oc) :: rest) ∧ AllLt D rest ∧ L + 1 < D ∧ IntsAre vs' (lastN p (os.filter (· != key) ++ [key])))) E s := by
  have pt11 : Part 11 := .mk
  have pt15 : Part 15 := .mk
  obtain ⟨rfl, rfl⟩ := hb.same (by k_is)
  simp only [theFor, List.take, List.drop]
  w_on
  clear hb
  k_steps
  all_goals first | exact ("key" : Str) | exact (L : Addr) | exact (Value.none) | skip
  (with_reducible rename IntsAre _ (List.drop _ _) => hI2)
  (with_reducible rename _ < _ ∧ _ < _ ∧ _ < _ ∧ _ < _ ∧ _ < _ ∧ AllLt _ _ => hl)
  (with_reducible rename News _ _ _ _ => hN)
  (with_reducible rename Fr _ _ _ _ => hF)
  rw [Int.neg_neg, List.map_id'] at hI2
  refine ⟨rfl, _, _, _, _, 0, _, rfl, hF, (by exact if_pos rfl), (fun y hy => by simp [hy]), news_sub hN ?_, hl.2.2.2.2.2, hl.2.2.2.1, hI2⟩
  · intro q hq
    simp only [List.mem_cons] at hq ⊢
    rcases hq with h | h | h
    · exact .inl h
    · exact .inr (.inr (.inr (.inr (.inl h))))
    · exact .inr (.inr (.inr (.inr (.inr (.inr h)))))
end
end
section
section
variable {w : World} {body : List Stmt} {scope : Scope} {h₀ : Heap} {L a : Addr} {cd : Value} {m : Str → Option Value} {mean : ExcName → Option Value} {mg mb : Str → Option Value} {s : Shared} {dp un : Nat} {gd : Option (List Code)} {E : Value → Shared → Prop} {rest : List (Addr × Obj)} {oc : Obj} {od : Addr} {vs : List Value} {os : List Int} {key p : Int} {t tk tp : Tok} {c : Nat}
set_option maxHeartbeats 600000 in
theorem turn_order2 (hb : IsLaw w body scope) (F : Fr h₀ L s.heap (fun y => if y = "order" then some (.ref od) else if y = "kind" then some (.int 2 t) else if y = "places" then some (.int p tp) else m y)) (X : (hd.heap_39 w.params).In h₀) (T : Top hd.view_39 lawLoose mean mg mb h₀) (N : News h₀ L s.heap ((L + 1, oc) :: (od, PySem.W.listOf vs.toArray c) :: rest)) (ho : oc.data = .cell (some (.int key tk))) (hI : IntsAre vs os)
    (hap : @Ne Nat (L + 1) od)
    (hp : 1 ≤ p) (hp2 : p ≤ 8) (hz : os.length ≤ 8) :
    wpAny (model lawProg w) ((aTop dp un gd (some [])).deeper (envOfC "law" scope L a cd)) (execs (((theFor body).drop 2).take 2) (envOfC "law" scope L a cd))
      (fun f s' => Done (f = .next ∧ ∃ (h' : Heap) (tk' : Nat) (D : Nat) (vs' : List Value) (c' : Nat) (m' : Str → Option Value), s' = { s with heap := h', toks := tk' } ∧ Fr h₀ L h' m' ∧ m' "order" = some (.ref D) ∧ (∀ y : Str, y ≠ "order" → m' y = (fun y : Str => if y = "order" then some (Value.ref od) else if y = "kind" then some (.int 2 t) else if y = "places" then some (.int p tp) else m y) y) ∧ News h₀ L h' ((D, PySem.W.listOf vs'.toArray c') :: (L + 1, oc) :: rest) ∧ AllLt D rest ∧ L + 1 < D ∧ IntsAre vs' (lastN p (os.filter (· != key))))) E s := by
  have pt11 : Part 11 := .mk
  have pt12 : Part 12 := .mk
  obtain ⟨rfl, rfl⟩ := hb.same (by k_is)
  simp only [theFor, List.take, List.drop]
  w_on
  clear hb
  k_steps
  all_goals first | exact ("key" : Str) | exact (L : Addr) | exact (Value.none) | skip
  (with_reducible rename IntsAre _ (List.drop _ _) => hI2)
  (with_reducible rename _ < _ ∧ _ < _ ∧ _ < _ ∧ AllLt _ _ => hl)
  (with_reducible rename News _ _ _ _ => hN)
  (with_reducible rename Fr _ _ _ _ => hF)
  rw [Int.neg_neg, List.map_id'] at hI2
  refine ⟨rfl, _, _, _, _, 0, _, rfl, hF, (by exact if_pos rfl), (fun y hy => by simp [hy]), news_sub hN ?_, hl.2.2.2, hl.2.1, hI2⟩
  intro q hq
  simp only [List.mem_cons] at hq ⊢
  rcases hq with h | h | h
  · exact .inl h
  · exact .inr (.inr (.inl h))
  · exact .inr (.inr (.inr (.inr h)))
end
end
section
section
variable {w : World} {body : List Stmt} {scope : Scope} {h₀ : Heap} {L a : Addr} {cd : Value} {m : Str → Option Value} {mean : ExcName → Option Value} {mg mb : Str → Option Value} {s : Shared} {dp un : Nat} {gd : Option (List Code)} {E : Value → Shared → Prop} {rest : List (Addr × Obj)} {oc : Obj} {od : Addr} {vs : List Value} {os : List Int} {key p : Int} {t tk tp : Tok} {c : Nat}
set_option maxHeartbeats 600000 in
theorem turn_order3 (hb : IsLaw w body scope) (F : Fr h₀ L s.heap (fun y => if y = "order" then some (.ref od) else if y = "kind" then some (.int 3 t) else if y = "places" then some (.int p tp) else m y)) (X : (hd.heap_39 w.params).In h₀) (T : Top hd.view_39 lawLoose mean mg mb h₀) (N : News h₀ L s.heap ((L + 1, oc) :: (od, PySem.W.listOf vs.toArray c) :: rest)) (ho : oc.data = .cell (some (.int key tk))) (hI : IntsAre vs os)
    (hap : @Ne Nat (L + 1) od)
    (hp : 1 ≤ p) (hp2 : p ≤ 8) (hz : os.length ≤ 8) :
    wpAny (model lawProg w) ((aTop dp un gd (some [])).deeper (envOfC "law" scope L a cd)) (execs (((theFor body).drop 2).take 2) (envOfC "law" scope L a cd))
      (fun f s' => Done (f = .next ∧ ∃ (h' : Heap) (tk' : Nat) (D : Nat) (vs' : List Value) (c' : Nat) (m' : Str → Option Value), s' = { s with heap := h', toks := tk' } ∧ Fr h₀ L h' m' ∧ m' "order" = some (.ref D) ∧ (∀ y : Str, y ≠ "order" → m' y = (fun y : Str => if y = "order" then some (Value.ref od) else if y = "kind" then some (.int 3 t) else if y = "places" then some (.int p tp) else m y) y) ∧ News h₀ L h' ((D, PySem.W.listOf vs'.toArray c') :: (L + 1, oc) :: rest) ∧ AllLt D rest ∧ L + 1 < D ∧ IntsAre vs' (lastN p (os.drop 1)))) E s := by
  have pt11 : Part 11 := .mk
  have pt12 : Part 12 := .mk
  obtain ⟨rfl, rfl⟩ := hb.same (by k_is)
  simp only [theFor, List.take, List.drop]
  w_on
  clear hb
  k_steps
  all_goals first | exact ("key" : Str) | exact (L : Addr) | exact (Value.none) | skip
  (with_reducible rename IntsAre _ (List.drop _ _) => hI2)
  (with_reducible rename _ < _ ∧ _ < _ ∧ _ < _ ∧ AllLt _ _ => hl)
  (with_reducible rename News _ _ _ _ => hN)
  (with_reducible rename Fr _ _ _ _ => hF)
  rw [Int.neg_neg] at hI2
  refine ⟨rfl, _, _, _, _, 0, _, rfl, hF, (by exact if_pos rfl), (fun y hy => by simp [hy]), news_sub hN ?_, hl.2.2.2, hl.2.1, hI2⟩
  intro q hq
  simp only [List.mem_cons] at hq ⊢
  rcases hq with h | h | h
  · exact .inl h
  · exact .inr (.inr (.inl h))
  · exact .inr (.inr (.inr (.inr h)))
end
end
section
section
variable {w : World} {body : List Stmt} {scope : Scope} {h₀ : Heap} {L a : Addr} {cd : Value} {m : Str → Option Value} {mean : ExcName → Option Value} {mg mb : Str → Option Value} {s : Shared} {dp un : Nat} {gd : Option (List Code)} {E : Value → Shared → Prop} {rest : List (Addr × Obj)} {oc : Obj} {od : Addr} {vs : List Value} {os : List Int} {key p : Int} {t tk tp : Tok} {c : Nat}
set_option maxHeartbeats 600000 in
theorem turn_order1i (hb : IsLaw w body scope) (F : Fr h₀ L s.heap (fun y => if y = "order" then some (.ref od) else if y = "kind" then some (.int 1 t) else if y = "places" then some (.int p tp) else m y)) (X : (hd.heap_39 w.params).In h₀) (T : Top hd.view_39 lawLoose mean mg mb h₀) (N : News h₀ L s.heap ((L + 1, oc) :: (od, PySem.W.listOf vs.toArray c) :: rest)) (ho : oc.data = .cell (some (.int key tk))) (hI : IntsAre vs os)
    (hap : @Ne Nat (L + 1) od)
    (hp : 1 ≤ p) (hp2 : p ≤ 8) (hz : os.length ≤ 8) (hmem : (os.any fun x => x == key) = true) :
    wpAny (model lawProg w) ((aTop dp un gd (some [])).deeper (envOfC "law" scope L a cd)) (execs (((theFor body).drop 2).take 2) (envOfC "law" scope L a cd))
      (fun f s' => Done (f = .next ∧ ∃ (h' : Heap) (tk' : Nat) (D : Nat) (vs' : List Value) (c' : Nat) (m' : Str → Option Value), s' = { s with heap := h', toks := tk' } ∧ Fr h₀ L h' m' ∧ m' "order" = some (.ref D) ∧ (∀ y : Str, y ≠ "order" → m' y = (fun y : Str => if y = "order" then some (Value.ref od) else if y = "kind" then some (.int 1 t) else if y = "places" then some (.int p tp) else m y) y) ∧ News h₀ L h' ((D, PySem.W.listOf vs'.toArray c') :: (L + 1, oc) :: rest) ∧ AllLt D rest ∧ L + 1 < D ∧ IntsAre vs' (lastN p (os.filter (· != key) ++ [key])))) E s := by
  have pt11 : Part 11 := .mk
  have pt14 : Part 14 := .mk
  have pt15 : Part 15 := .mk
  obtain ⟨rfl, rfl⟩ := hb.same (by k_is)
  simp only [theFor, List.take, List.drop]
  w_on
  clear hb
  k_steps
  all_goals first | exact ("key" : Str) | exact (L : Addr) | exact (Value.none) | skip
  (with_reducible rename IntsAre _ (List.drop _ _) => hI2)
  (with_reducible rename _ < _ ∧ _ < _ ∧ _ < _ ∧ _ < _ ∧ _ < _ ∧ AllLt _ _ => hl)
  (with_reducible rename News _ _ _ _ => hN)
  (with_reducible rename Fr _ _ _ _ => hF)
  rw [Int.neg_neg, List.map_id'] at hI2
  refine ⟨rfl, _, _, _, _, 0, _, rfl, hF, (by exact if_pos rfl), (fun y hy => by simp [hy]), news_sub hN ?_, hl.2.2.2.2.2, hl.2.2.2.1, hI2⟩
  · intro q hq
    simp only [List.mem_cons] at hq ⊢
    rcases hq with h | h | h
    · exact .inl h
    · exact .inr (.inr (.inr (.inr (.inl h))))
    · exact .inr (.inr (.inr (.inr (.inr (.inr h)))))
end
end
section
section
variable {w : World} {body : List Stmt} {scope : Scope} {h₀ : Heap} {L a : Addr} {cd : Value} {m : Str → Option Value} {mean : ExcName → Option Value} {mg mb : Str → Option Value} {s : Shared} {dp un : Nat} {gd : Option (List Code)} {E : Value → Shared → Prop} {rest : List (Addr × Obj)} {oc : Obj} {od : Addr} {vs : List Value} {os : List Int} {key p : Int} {t tk tp : Tok} {c : Nat}
set_option maxHeartbeats 600000 in
theorem turn_order1o (hb : IsLaw w body scope) (F : Fr h₀ L s.heap (fun y => if y = "order" then some (.ref od) else if y = "kind" then some (.int 1 t) else if y = "places" then some (.int p tp) else m y)) (X : (hd.heap_39 w.params).In h₀) (T : Top hd.view_39 lawLoose mean mg mb h₀) (N : News h₀ L s.heap ((L + 1, oc) :: (od, PySem.W.listOf vs.toArray c) :: rest)) (ho : oc.data = .cell (some (.int key tk))) (hI : IntsAre vs os)
    (hap : @Ne Nat (L + 1) od)
    (hp : 1 ≤ p) (hp2 : p ≤ 8) (hz : os.length ≤ 8) (hmem : (os.any fun x => x == key) = false) :
    wpAny (model lawProg w) ((aTop dp un gd (some [])).deeper (envOfC "law" scope L a cd)) (execs (((theFor body).drop 2).take 2) (envOfC "law" scope L a cd))
      (fun f s' => Done (f = .next ∧ ∃ (h' : Heap) (tk' : Nat) (D : Nat) (vs' : List Value) (c' : Nat) (m' : Str → Option Value), s' = { s with heap := h', toks := tk' } ∧ Fr h₀ L h' m' ∧ m' "order" = some (.ref D) ∧ (∀ y : Str, y ≠ "order" → m' y = (fun y : Str => if y = "order" then some (Value.ref od) else if y = "kind" then some (.int 1 t) else if y = "places" then some (.int p tp) else m y) y) ∧ News h₀ L h' ((D, PySem.W.listOf vs'.toArray c') :: (L + 1, oc) :: rest) ∧ AllLt D rest ∧ L + 1 < D ∧ IntsAre vs' (lastN p os))) E s := by
  have pt11 : Part 11 := .mk
  have pt13 : Part 13 := .mk
  have pt14 : Part 14 := .mk
  obtain ⟨rfl, rfl⟩ := hb.same (by k_is)
  simp only [theFor, List.take, List.drop]
  w_on
  clear hb
  k_steps
  all_goals first | exact ("key" : Str) | exact (L : Addr) | exact (Value.none) | skip
  (with_reducible rename IntsAre _ (List.drop _ _) => hI2)
  (with_reducible rename _ < _ ∧ _ < _ ∧ AllLt _ _ => hl)
  (with_reducible rename News _ _ _ _ => hN)
  (with_reducible rename Fr _ _ _ _ => hF)
  rw [Int.neg_neg] at hI2
  refine ⟨rfl, _, _, _, _, 0, _, rfl, hF, (by exact if_pos rfl), (fun y hy => by simp [hy]), news_sub hN ?_, hl.2.2, hl.1, hI2⟩
  intro q hq
  simp only [List.mem_cons] at hq ⊢
  rcases hq with h | h | h
  · exact .inl h
  · exact .inr (.inl h)
  · exact .inr (.inr (.inr h))
end
end
section
section
variable {w : World} {body : List Stmt} {scope : Scope} {h₀ : Heap} {L a : Addr} {cd : Value} {m : Str → Option Value} {mean : ExcName → Option Value} {mg mb : Str → Option Value} {s : Shared} {dp un : Nat} {gd : Option (List Code)} {pre post : List (List (Addr × Obj))} {oc : Obj} {kind key k : Int} {t tk t2 : Tok} {ow1 ow2 : List (Addr × Obj)} {a1 a2 : Nat} {td : Told} {P1 P2 : List (Addr × Obj) → Prop}
set_option maxHeartbeats 600000 in
theorem seg_told1 (hb : IsLaw w body scope) (F : Fr h₀ L s.heap m) (X : (hd.heap_39 w.params).In h₀) (T : Top hd.view_39 lawLoose mean mg mb h₀) (B : Blk h₀ L s.heap ([(L + 1, oc)] :: (pre ++ ow1 :: ow2 :: post))) (ho : oc.data = .cell (some (.int key tk)))
    (hm1 : m "recent" = some (.ref a1)) (hm2 : m "recents" = some (.ref a2)) (hm3 : m "kind" = some (.int kind t)) (hm4 : m "k" = some (.int k t2)) (hdp : dp ≤ 500) (hun : un ≤ 4000)
    (ok : ToldOk td) (S1 : DoesF w 540 4500 1053 [.ref a1, .int kind t, .int key tk, .int k t2] ow1 (fun r o => ∃ X o2, o = X ++ o2 ∧ ToldIs td r X ∧ P1 o2)) (S2 : DoesF w 540 4500 1053 [.ref a2, .int kind t, .int key tk, .int k t2] ow2 (fun r o => ∃ X o2, o = X ++ o2 ∧ ToldIs td r X ∧ P2 o2)) :
    wpAny (model lawProg w) ((aTop dp un gd (some [])).deeper (envOfC "law" scope L a cd)) (execs (((theFor body).drop 4).take 2) (envOfC "law" scope L a cd))
      (fun f s' => Done (f = .next ∧ ∃ h' tk' ow1' ow2' m', s' = { s with heap := h', toks := tk' } ∧ Fr h₀ L h' m' ∧ (∀ y : Str, y ≠ "told" → m' y = m y) ∧ Blk h₀ L h' ([(L + 1, oc)] :: (pre ++ ow1' :: ow2' :: post)) ∧ P1 ow1' ∧ P2 ow2')) (fun _ _ => False) s := by
  have pt0 : Part 0 := .mk
  obtain ⟨rfl, rfl⟩ := hb.same (by k_is)
  simp only [theFor, List.take, List.drop]
  w_on
  clear hb
  have N : News h₀ L s.heap ((L + 1, oc) :: (pre ++ ow1 :: ow2 :: post).flatten) := B.1
  k_steps
  k_dflt (refine' blk_useF (pre := [(L + 1, oc)] :: pre) S1 ?F ?X ?B ?T rfl rfl ?hD ?hU ?_; (case F => k_asm); (case X => k_asm); (case B => exact B); (case T => k_asm); (case hD => walk_at "mine room"); (case hU => walk_at "mine room"))
  intro v1 ow1' h1 tk1 F1 B1 P1'
  obtain ⟨X1, o1', rfl, hT1, hP1⟩ := P1'
  try dsimp only
  clear N F
  have N : News h₀ L h1 ((L + 1, oc) :: (pre ++ (X1 ++ o1') :: ow2 :: post).flatten) := B1.1
  k_steps
  (with_reducible rename News _ _ _ _ => N2)
  have B2 := Blk.keepFrom B1 N2
  k_dflt (refine' blk_useF (pre := ([(L + 1, oc)] :: pre) ++ [X1 ++ o1']) S2 ?F ?X ?B ?T rfl rfl ?hD ?hU ?_; (case F => k_asm); (case X => k_asm); (case B => exact Blk.nxt (pre := [(L + 1, oc)] :: pre) B2); (case T => k_asm); (case hD => walk_at "mine room"); (case hU => walk_at "mine room"))
  intro v2 ow2' h2 tk2 F2 B3 P2'
  obtain ⟨X2, o2', rfl, hT2, hP2⟩ := P2'
  have B4 : Blk h₀ L h2 ([(L + 1, oc)] :: (pre ++ (X1 ++ o1') :: (X2 ++ o2') :: post)) := Blk.prv B3
  try dsimp only
  clear N2
  k_sweep
  have N : News h₀ L h2 ((L + 1, oc) :: (pre ++ (X1 ++ o1') :: (X2 ++ o2') :: post).flatten) := B4.1
  k_steps
  k_dflt (refine' ne_told ok hT2 hT1 ?n2 ?n1 ?hu ?_; (case n2 => exact fun p hp => (Blk.mem B3 p (List.mem_append_left _ hp)).1); (case n1 => exact fun p hp => (Blk.mem (pre := [(L + 1, oc)] :: pre) B4 p (List.mem_append_left _ hp)).1); (case hu => ((try dsimp only [aTop, Around.in1, Around.deeper]); unfold cLine; omega)))
  k_steps
  refine ⟨rfl, _, _, o1', o2', _, rfl, by k_asm, fun y hy => if_neg hy, ?_, hP1, hP2⟩
  have B5 := Blk.sub (pre := ([(L + 1, oc)] :: pre) ++ [X1 ++ o1']) (b' := o2') B3 (fun p hp => List.mem_append_right _ hp)
  exact Blk.sub (pre := [(L + 1, oc)] :: pre) (b := X1 ++ o1') (post := o2' :: post) (Blk.prv B5) (fun p hp => List.mem_append_right _ hp)
end
end
section
section
variable {w : World} {body : List Stmt} {scope : Scope} {h₀ : Heap} {L a : Addr} {cd : Value} {m : Str → Option Value} {mean : ExcName → Option Value} {mg mb : Str → Option Value} {s : Shared} {dp un : Nat} {gd : Option (List Code)} {pre post : List (List (Addr × Obj))} {oc : Obj} {kind key k : Int} {t tk t2 : Tok} {ow1 ow2 : List (Addr × Obj)} {a1 a2 : Nat} {td : Told} {P1 P2 : List (Addr × Obj) → Prop}
set_option maxHeartbeats 600000 in
theorem seg_told2 (hb : IsLaw w body scope) (F : Fr h₀ L s.heap m) (X : (hd.heap_39 w.params).In h₀) (T : Top hd.view_39 lawLoose mean mg mb h₀) (B : Blk h₀ L s.heap ([(L + 1, oc)] :: (pre ++ ow1 :: ow2 :: post))) (ho : oc.data = .cell (some (.int key tk)))
    (hm1 : m "count" = some (.ref a1)) (hm2 : m "counts" = some (.ref a2)) (hm3 : m "kind" = some (.int kind t)) (hm4 : m "k" = some (.int k t2)) (hdp : dp ≤ 500) (hun : un ≤ 4000)
    (ok : ToldOk td) (S1 : DoesF w 540 4500 1053 [.ref a1, .int kind t, .int key tk, .int k t2] ow1 (fun r o => ∃ X o2, o = X ++ o2 ∧ ToldIs td r X ∧ P1 o2)) (S2 : DoesF w 540 4500 1053 [.ref a2, .int kind t, .int key tk, .int k t2] ow2 (fun r o => ∃ X o2, o = X ++ o2 ∧ ToldIs td r X ∧ P2 o2)) :
    wpAny (model lawProg w) ((aTop dp un gd (some [])).deeper (envOfC "law" scope L a cd)) (execs (((theFor body).drop 7).take 2) (envOfC "law" scope L a cd))
      (fun f s' => Done (f = .next ∧ ∃ h' tk' ow1' ow2' m', s' = { s with heap := h', toks := tk' } ∧ Fr h₀ L h' m' ∧ (∀ y : Str, y ≠ "told" → m' y = m y) ∧ Blk h₀ L h' ([(L + 1, oc)] :: (pre ++ ow1' :: ow2' :: post)) ∧ P1 ow1' ∧ P2 ow2')) (fun _ _ => False) s := by
  have pt0 : Part 0 := .mk
  obtain ⟨rfl, rfl⟩ := hb.same (by k_is)
  simp only [theFor, List.take, List.drop]
  w_on
  clear hb
  have N : News h₀ L s.heap ((L + 1, oc) :: (pre ++ ow1 :: ow2 :: post).flatten) := B.1
  k_steps
  k_dflt (refine' blk_useF (pre := [(L + 1, oc)] :: pre) S1 ?F ?X ?B ?T rfl rfl ?hD ?hU ?_; (case F => k_asm); (case X => k_asm); (case B => exact B); (case T => k_asm); (case hD => walk_at "mine room"); (case hU => walk_at "mine room"))
  intro v1 ow1' h1 tk1 F1 B1 P1'
  obtain ⟨X1, o1', rfl, hT1, hP1⟩ := P1'
  try dsimp only
  clear N F
  have N : News h₀ L h1 ((L + 1, oc) :: (pre ++ (X1 ++ o1') :: ow2 :: post).flatten) := B1.1
  k_steps
  (with_reducible rename News _ _ _ _ => N2)
  have B2 := Blk.keepFrom B1 N2
  k_dflt (refine' blk_useF (pre := ([(L + 1, oc)] :: pre) ++ [X1 ++ o1']) S2 ?F ?X ?B ?T rfl rfl ?hD ?hU ?_; (case F => k_asm); (case X => k_asm); (case B => exact Blk.nxt (pre := [(L + 1, oc)] :: pre) B2); (case T => k_asm); (case hD => walk_at "mine room"); (case hU => walk_at "mine room"))
  intro v2 ow2' h2 tk2 F2 B3 P2'
  obtain ⟨X2, o2', rfl, hT2, hP2⟩ := P2'
  have B4 : Blk h₀ L h2 ([(L + 1, oc)] :: (pre ++ (X1 ++ o1') :: (X2 ++ o2') :: post)) := Blk.prv B3
  try dsimp only
  clear N2
  k_sweep
  have N : News h₀ L h2 ((L + 1, oc) :: (pre ++ (X1 ++ o1') :: (X2 ++ o2') :: post).flatten) := B4.1
  k_steps
  k_dflt (refine' ne_told ok hT2 hT1 ?n2 ?n1 ?hu ?_; (case n2 => exact fun p hp => (Blk.mem B3 p (List.mem_append_left _ hp)).1); (case n1 => exact fun p hp => (Blk.mem (pre := [(L + 1, oc)] :: pre) B4 p (List.mem_append_left _ hp)).1); (case hu => ((try dsimp only [aTop, Around.in1, Around.deeper]); unfold cLine; omega)))
  k_steps
  refine ⟨rfl, _, _, o1', o2', _, rfl, by k_asm, fun y hy => if_neg hy, ?_, hP1, hP2⟩
  have B5 := Blk.sub (pre := ([(L + 1, oc)] :: pre) ++ [X1 ++ o1']) (b' := o2') B3 (fun p hp => List.mem_append_right _ hp)
  exact Blk.sub (pre := [(L + 1, oc)] :: pre) (b := X1 ++ o1') (post := o2' :: post) (Blk.prv B5) (fun p hp => List.mem_append_right _ hp)
end
end
section
section
variable {w : World} {body : List Stmt} {scope : Scope} {h₀ : Heap} {L a : Addr} {cd : Value} {m : Str → Option Value} {mean : ExcName → Option Value} {mg mb : Str → Option Value} {s : Shared} {dp un : Nat} {gd : Option (List Code)} {pre post : List (List (Addr × Obj))} {oc : Obj} {kind key k : Int} {t tk t2 : Tok} {ow1 ow2 : List (Addr × Obj)} {a1 a2 : Nat} {td : Told} {P1 P2 : List (Addr × Obj) → Prop}
set_option maxHeartbeats 600000 in
theorem seg_told3 (hb : IsLaw w body scope) (F : Fr h₀ L s.heap m) (X : (hd.heap_39 w.params).In h₀) (T : Top hd.view_39 lawLoose mean mg mb h₀) (B : Blk h₀ L s.heap ([(L + 1, oc)] :: (pre ++ ow1 :: ow2 :: post))) (ho : oc.data = .cell (some (.int key tk)))
    (hm1 : m "first" = some (.ref a1)) (hm2 : m "firsts" = some (.ref a2)) (hm3 : m "kind" = some (.int kind t)) (hm4 : m "k" = some (.int k t2)) (hdp : dp ≤ 500) (hun : un ≤ 4000) (hk : kind ≠ 1)
    (ok : ToldOk td) (S1 : DoesF w 540 4500 1053 [.ref a1, .int kind t, .int key tk, .int k t2] ow1 (fun r o => ∃ X o2, o = X ++ o2 ∧ ToldIs td r X ∧ P1 o2)) (S2 : DoesF w 540 4500 1053 [.ref a2, .int kind t, .int key tk, .int k t2] ow2 (fun r o => ∃ X o2, o = X ++ o2 ∧ ToldIs td r X ∧ P2 o2)) :
    wpAny (model lawProg w) ((aTop dp un gd (some [])).deeper (envOfC "law" scope L a cd)) (execs (((theFor body).drop 10).take 2) (envOfC "law" scope L a cd))
      (fun f s' => Done (f = .next ∧ ∃ h' tk' ow1' ow2' m', s' = { s with heap := h', toks := tk' } ∧ Fr h₀ L h' m' ∧ (∀ y : Str, y ≠ "told" → m' y = m y) ∧ Blk h₀ L h' ([(L + 1, oc)] :: (pre ++ ow1' :: ow2' :: post)) ∧ P1 ow1' ∧ P2 ow2')) (fun _ _ => False) s := by
  have pt0 : Part 0 := .mk
  obtain ⟨rfl, rfl⟩ := hb.same (by k_is)
  simp only [theFor, List.take, List.drop]
  w_on
  clear hb
  have N : News h₀ L s.heap ((L + 1, oc) :: (pre ++ ow1 :: ow2 :: post).flatten) := B.1
  k_steps
  k_dflt (refine' blk_useF (pre := [(L + 1, oc)] :: pre) S1 ?F ?X ?B ?T rfl rfl ?hD ?hU ?_; (case F => k_asm); (case X => k_asm); (case B => exact B); (case T => k_asm); (case hD => walk_at "mine room"); (case hU => walk_at "mine room"))
  intro v1 ow1' h1 tk1 F1 B1 P1'
  obtain ⟨X1, o1', rfl, hT1, hP1⟩ := P1'
  try dsimp only
  clear N F
  have N : News h₀ L h1 ((L + 1, oc) :: (pre ++ (X1 ++ o1') :: ow2 :: post).flatten) := B1.1
  k_steps
  (with_reducible rename News _ _ _ _ => N2)
  have B2 := Blk.keepFrom B1 N2
  k_dflt (refine' blk_useF (pre := ([(L + 1, oc)] :: pre) ++ [X1 ++ o1']) S2 ?F ?X ?B ?T rfl rfl ?hD ?hU ?_; (case F => k_asm); (case X => k_asm); (case B => exact Blk.nxt (pre := [(L + 1, oc)] :: pre) B2); (case T => k_asm); (case hD => walk_at "mine room"); (case hU => walk_at "mine room"))
  intro v2 ow2' h2 tk2 F2 B3 P2'
  obtain ⟨X2, o2', rfl, hT2, hP2⟩ := P2'
  have B4 : Blk h₀ L h2 ([(L + 1, oc)] :: (pre ++ (X1 ++ o1') :: (X2 ++ o2') :: post)) := Blk.prv B3
  try dsimp only
  clear N2
  k_sweep
  have N : News h₀ L h2 ((L + 1, oc) :: (pre ++ (X1 ++ o1') :: (X2 ++ o2') :: post).flatten) := B4.1
  k_steps
  k_dflt (refine' ne_told ok hT2 hT1 ?n2 ?n1 ?hu ?_; (case n2 => exact fun p hp => (Blk.mem B3 p (List.mem_append_left _ hp)).1); (case n1 => exact fun p hp => (Blk.mem (pre := [(L + 1, oc)] :: pre) B4 p (List.mem_append_left _ hp)).1); (case hu => ((try dsimp only [aTop, Around.in1, Around.deeper]); unfold cLine; omega)))
  k_steps
  refine ⟨rfl, _, _, o1', o2', _, rfl, by k_asm, fun y hy => if_neg hy, ?_, hP1, hP2⟩
  have B5 := Blk.sub (pre := ([(L + 1, oc)] :: pre) ++ [X1 ++ o1']) (b' := o2') B3 (fun p hp => List.mem_append_right _ hp)
  exact Blk.sub (pre := [(L + 1, oc)] :: pre) (b := X1 ++ o1') (post := o2' :: post) (Blk.prv B5) (fun p hp => List.mem_append_right _ hp)
set_option maxHeartbeats 600000 in
theorem seg_told4 (hb : IsLaw w body scope) (F : Fr h₀ L s.heap m) (X : (hd.heap_39 w.params).In h₀) (T : Top hd.view_39 lawLoose mean mg mb h₀) (B : Blk h₀ L s.heap ([(L + 1, oc)] :: (pre ++ ow1 :: ow2 :: post))) (ho : oc.data = .cell (some (.int key tk)))
    (hm1 : m "first" = some (.ref a1)) (hm2 : m "firsts" = some (.ref a2)) (hm3 : m "kind" = some (.int kind t)) (hm4 : m "k" = some (.int k t2)) (hdp : dp ≤ 500) (hun : un ≤ 4000) (hk : kind = 1)
    (ok : ToldOk td) (S1 : DoesF w 540 4500 1053 [.ref a1, .int kind t, .int key tk, .int k t2] ow1 (fun r o => ∃ X o2, o = X ++ o2 ∧ ToldIs td r X ∧ P1 o2)) (hP2 : P2 ow2) :
    wpAny (model lawProg w) ((aTop dp un gd (some [])).deeper (envOfC "law" scope L a cd)) (execs (((theFor body).drop 10).take 2) (envOfC "law" scope L a cd))
      (fun f s' => Done (f = .next ∧ ∃ h' tk' ow1' ow2' m', s' = { s with heap := h', toks := tk' } ∧ Fr h₀ L h' m' ∧ (∀ y : Str, y ≠ "told" → m' y = m y) ∧ Blk h₀ L h' ([(L + 1, oc)] :: (pre ++ ow1' :: ow2' :: post)) ∧ P1 ow1' ∧ P2 ow2')) (fun _ _ => False) s := by
  have pt0 : Part 0 := .mk
  obtain ⟨rfl, rfl⟩ := hb.same (by k_is)
  simp only [theFor, List.take, List.drop]
  w_on
  clear hb
  have N : News h₀ L s.heap ((L + 1, oc) :: (pre ++ ow1 :: ow2 :: post).flatten) := B.1
  k_steps
  k_dflt (refine' blk_useF (pre := [(L + 1, oc)] :: pre) S1 ?F ?X ?B ?T rfl rfl ?hD ?hU ?_; (case F => k_asm); (case X => k_asm); (case B => exact B); (case T => k_asm); (case hD => walk_at "mine room"); (case hU => walk_at "mine room"))
  intro v1 ow1' h1 tk1 F1 B1 P1'
  obtain ⟨X1, o1', rfl, hT1, hP1⟩ := P1'
  try dsimp only
  clear N F
  have N : News h₀ L h1 ((L + 1, oc) :: (pre ++ (X1 ++ o1') :: ow2 :: post).flatten) := B1.1
  k_steps
  (with_reducible rename News _ _ _ _ => N2)
  have B2 := Blk.keepFrom B1 N2
  refine ⟨rfl, _, _, o1', ow2, _, rfl, by k_asm, fun y hy => if_neg hy, ?_, hP1, hP2⟩
  exact Blk.sub (pre := [(L + 1, oc)] :: pre) (b := X1 ++ o1') (post := ow2 :: post) B2 (fun p hp => List.mem_append_right _ hp)
end
end
section
section
variable {w : World} {body : List Stmt} {scope : Scope} {h₀ : Heap} {L a : Addr} {cd : Value} {m : Str → Option Value} {mean : ExcName → Option Value} {mg mb : Str → Option Value} {s : Shared} {dp un : Nat} {gd : Option (List Code)} {pre post : List (List (Addr × Obj))} {oc : Obj} {kind key o : Int} {t tk to : Tok} {ow : List (Addr × Obj)} {a1 n : Nat} {Ow : Nat → List (Addr × Obj) → Prop}
set_option maxHeartbeats 600000 in
theorem seg_again1 (hb : IsLaw w body scope) (F : Fr h₀ L s.heap m) (X : (hd.heap_39 w.params).In h₀) (T : Top hd.view_39 lawLoose mean mg mb h₀) (B : Blk h₀ L s.heap ([(L + 1, oc)] :: (pre ++ ow :: post))) (ho : oc.data = .cell (some (.int key tk)))
    (hm1 : m "recents" = some (.ref a1)) (hm2 : m "often" = some (.int o to)) (hm3 : m "kind" = some (.int kind t)) (hdp : dp ≤ 500) (hun : un ≤ 4000) (hk : kind < 2) (hfit : o ≤ 4 ∧ 2 ≤ o) (hsm : Builtin.Range.small 0 (o) 1 = true) (hn : Builtin.Range.rangeSize 0 (o) 1 = (n : Int)) (h0 : Ow 0 ow)
    (hi : ∀ i own, Ow i own → CInst a1 1044 own) (S : ∀ i own, Ow i own → Does w 550 4700 778 [.ref a1, .int key tk] own (fun r o' => Ow (i + 1) o')) :
    wpAny (model lawProg w) ((aTop dp un gd (some [])).deeper (envOfC "law" scope L a cd)) (execs (((theFor body).drop 6).take 1) (envOfC "law" scope L a cd))
      (fun f s' => Done (f = .next ∧ ∃ h' tk' ow' m', s' = { s with heap := h', toks := tk' } ∧ Fr h₀ L h' m' ∧ (∀ y : Str, y ≠ "again" → m' y = m y) ∧ Blk h₀ L h' ([(L + 1, oc)] :: (pre ++ ow' :: post)) ∧ Ow n ow')) (fun _ _ => False) s := by
  have pt0 : Part 0 := .mk
  have pt1 : Part 1 := .mk
  have pt2 : Part 2 := .mk
  obtain ⟨rfl, rfl⟩ := hb.same (by k_is)
  simp only [theFor, List.take, List.drop]
  w_on
  clear hb
  have N : News h₀ L s.heap ((L + 1, oc) :: (pre ++ ow :: post).flatten) := B.1
  refine wpAny_execs_cons ?_
  with_unfolding_all refine For_invVF F ?k1 ?k2 ?_ (hE := PassesOwn.never)
  case k1 => exact rfl
  case k2 => exact rfl
  clear hfit
  k_steps
  unfold Hold
  (with_reducible rename IsRange _ _ _ _ _ _ _ _ => R1)
  (with_reducible rename Fr _ _ _ _ => F1)
  (with_reducible rename News _ _ _ _ => N1)
  k_dflt (refine' iter_rangeJ (n := n) (fun i m₁ news₁ => (∀ y : Str, y ≠ "again" → m₁ y = m y) ∧ ∃ ow', news₁ = ([(L + 1, oc)] :: (pre ++ ow' :: post)).flatten ∧ ([(L + 1, oc)] :: (pre ++ ow' :: post)).Pairwise Apart ∧ Ow i ow') ?hh ?hr ?hs ?hn ?F ?N ?h0 ?turn ?done; (case hh => exact rfl); (case hr => exact R1); (case hs => exact hsm); (case hn => exact hn); (case F => exact F1); (case N => exact N1); (case h0 => exact ⟨fun _ _ => rfl, ow, rfl, B.2, h0⟩))
  case turn =>
    intro i I m₁ news₁ t1 h1 tk1 hlt hJ hI F₁ N₁
    obtain ⟨hm, ow', rfl, hp, hw⟩ := hJ
    have g1 : m₁ "recents" = some (.ref a1) := (hm _ (by decide)).trans hm1
    clear F1 N1 R1
    generalize krsIt (0 + ((i + 1 : Nat) : Int) * 1) ((n : Int) - ((i + 1 : Nat) : Int)) 1 = it at N₁ ⊢
    have B₁ : Blk h₀ L h1 ([(I, it)] :: [(L + 1, oc)] :: (pre ++ ow' :: post)) := ⟨N₁, List.pairwise_cons.mpr ⟨fun c hc => apart_ofNe fun p hp q hq => by
      rw [List.mem_singleton.mp hp]
      exact (hI q (List.mem_flatten.mpr ⟨c, hc, hq⟩)).symm, hp⟩⟩
    have N₂ : News h₀ L h1 ((I, it) :: (L + 1, oc) :: (pre ++ ow' :: post).flatten) := N₁
    clear N₁
    refine wpAny_mono (Q := fun f s' => Done (f = .next ∧ ∃ h' tk' ow'' m', s' = { s with heap := h', toks := tk' } ∧ Fr h₀ L h' m' ∧ (∀ y : Str, y ≠ "again" → m' y = m₁ y) ∧ Blk h₀ L h' ([(I, it)] :: [(L + 1, oc)] :: (pre ++ ow'' :: post)) ∧ Ow (i + 1) ow'')) (E := fun _ _ => False) ?_ ?_ fun _ _ e => e
    · k_steps
      unfold Hold
      k_dflt (refine' cmethod ?F ?X (hi i ow' hw) ?N (.inl rfl) ?g ?f ?t ?_; (case F => k_asm); (case X => k_asm); (case N => exact Blk.mem (pre := [(I, it)] :: [(L + 1, oc)] :: pre) B₁); (case g => k_is); (case f => k_is); (case t => k_is); k_whole)
      k_steps
      k_dflt (refine' blk_use (pre := [(I, it)] :: [(L + 1, oc)] :: pre) (S i ow' hw) ?F ?X ?B ?T ?hD ?hU ?_; (case F => k_asm); (case X => k_asm); (case B => exact B₁); (case T => k_asm); (case hD => walk_at "mine room"); (case hU => walk_at "mine room"))
      intro v1 ow'' h2 tk2 F2 B2 P2
      try dsimp only
      clear N₂ F₁
      k_steps
      exact ⟨rfl, _, _, ow'', _, rfl, by k_asm, fun y hy => if_neg hy, B2, P2⟩
    · rintro f s' ⟨rfl, h', tk', ow'', m', rfl, F', hm', B', hw'⟩
      have hq := List.pairwise_cons.mp B'.2
      exact ⟨h', tk', m', _, rfl, F', B'.1, fun p hp e => B'.apartAll p.1 (List.mem_map_of_mem hp) (by rw [e]; exact .head _), fun y hy => (hm' y hy).trans (hm y hy), ow'', rfl, hq.2, hw'⟩
  case done =>
    intro m₁ news₁ h1 tk1 hJ F₁ N₁
    obtain ⟨hm, ow', rfl, hp, hw⟩ := hJ
    exact wpAny_execs_nil ⟨rfl, h1, tk1, ow', m₁, rfl, F₁, hm, ⟨N₁, hp⟩, hw⟩
end
end
section
section
variable {w : World} {body : List Stmt} {scope : Scope} {h₀ : Heap} {L a : Addr} {cd : Value} {m : Str → Option Value} {mean : ExcName → Option Value} {mg mb : Str → Option Value} {s : Shared} {dp un : Nat} {gd : Option (List Code)} {pre post : List (List (Addr × Obj))} {oc : Obj} {kind key o : Int} {t tk to : Tok} {ow : List (Addr × Obj)} {a1 n : Nat} {Ow : Nat → List (Addr × Obj) → Prop}
set_option maxHeartbeats 600000 in
theorem seg_again2 (hb : IsLaw w body scope) (F : Fr h₀ L s.heap m) (X : (hd.heap_39 w.params).In h₀) (T : Top hd.view_39 lawLoose mean mg mb h₀) (B : Blk h₀ L s.heap ([(L + 1, oc)] :: (pre ++ ow :: post))) (ho : oc.data = .cell (some (.int key tk)))
    (hm1 : m "recents" = some (.ref a1)) (hm2 : m "often" = some (.int o to)) (hm3 : m "kind" = some (.int kind t)) (hdp : dp ≤ 500) (hun : un ≤ 4000) (hk : ¬ kind < 2) (hfit : o ≤ 4 ∧ 2 ≤ o) (hsm : Builtin.Range.small 0 (0) 1 = true) (hn : Builtin.Range.rangeSize 0 (0) 1 = (n : Int)) (h0 : Ow 0 ow)
    (hi : ∀ i own, Ow i own → CInst a1 1044 own) (S : ∀ i own, Ow i own → Does w 550 4700 778 [.ref a1, .int key tk] own (fun r o' => Ow (i + 1) o')) :
    wpAny (model lawProg w) ((aTop dp un gd (some [])).deeper (envOfC "law" scope L a cd)) (execs (((theFor body).drop 6).take 1) (envOfC "law" scope L a cd))
      (fun f s' => Done (f = .next ∧ ∃ h' tk' ow' m', s' = { s with heap := h', toks := tk' } ∧ Fr h₀ L h' m' ∧ (∀ y : Str, y ≠ "again" → m' y = m y) ∧ Blk h₀ L h' ([(L + 1, oc)] :: (pre ++ ow' :: post)) ∧ Ow n ow')) (fun _ _ => False) s := by
  have pt0 : Part 0 := .mk
  have pt1 : Part 1 := .mk
  have pt2 : Part 2 := .mk
  obtain ⟨rfl, rfl⟩ := hb.same (by k_is)
  simp only [theFor, List.take, List.drop]
  w_on
  clear hb
  have N : News h₀ L s.heap ((L + 1, oc) :: (pre ++ ow :: post).flatten) := B.1
  refine wpAny_execs_cons ?_
  with_unfolding_all refine For_invVF F ?k1 ?k2 ?_ (hE := PassesOwn.never)
  case k1 => exact rfl
  case k2 => exact rfl
  clear hfit
  k_steps
  unfold Hold
  (with_reducible rename IsRange _ _ _ _ _ _ _ _ => R1)
  (with_reducible rename Fr _ _ _ _ => F1)
  (with_reducible rename News _ _ _ _ => N1)
  k_dflt (refine' iter_rangeJ (n := n) (fun i m₁ news₁ => (∀ y : Str, y ≠ "again" → m₁ y = m y) ∧ ∃ ow', news₁ = ([(L + 1, oc)] :: (pre ++ ow' :: post)).flatten ∧ ([(L + 1, oc)] :: (pre ++ ow' :: post)).Pairwise Apart ∧ Ow i ow') ?hh ?hr ?hs ?hn ?F ?N ?h0 ?turn ?done; (case hh => exact rfl); (case hr => exact R1); (case hs => exact hsm); (case hn => exact hn); (case F => exact F1); (case N => exact N1); (case h0 => exact ⟨fun _ _ => rfl, ow, rfl, B.2, h0⟩))
  case turn =>
    intro i I m₁ news₁ t1 h1 tk1 hlt hJ hI F₁ N₁
    obtain ⟨hm, ow', rfl, hp, hw⟩ := hJ
    have g1 : m₁ "recents" = some (.ref a1) := (hm _ (by decide)).trans hm1
    clear F1 N1 R1
    generalize krsIt (0 + ((i + 1 : Nat) : Int) * 1) ((n : Int) - ((i + 1 : Nat) : Int)) 1 = it at N₁ ⊢
    have B₁ : Blk h₀ L h1 ([(I, it)] :: [(L + 1, oc)] :: (pre ++ ow' :: post)) := ⟨N₁, List.pairwise_cons.mpr ⟨fun c hc => apart_ofNe fun p hp q hq => by
      rw [List.mem_singleton.mp hp]
      exact (hI q (List.mem_flatten.mpr ⟨c, hc, hq⟩)).symm, hp⟩⟩
    have N₂ : News h₀ L h1 ((I, it) :: (L + 1, oc) :: (pre ++ ow' :: post).flatten) := N₁
    clear N₁
    refine wpAny_mono (Q := fun f s' => Done (f = .next ∧ ∃ h' tk' ow'' m', s' = { s with heap := h', toks := tk' } ∧ Fr h₀ L h' m' ∧ (∀ y : Str, y ≠ "again" → m' y = m₁ y) ∧ Blk h₀ L h' ([(I, it)] :: [(L + 1, oc)] :: (pre ++ ow'' :: post)) ∧ Ow (i + 1) ow'')) (E := fun _ _ => False) ?_ ?_ fun _ _ e => e
    · k_steps
      unfold Hold
      k_dflt (refine' cmethod ?F ?X (hi i ow' hw) ?N (.inl rfl) ?g ?f ?t ?_; (case F => k_asm); (case X => k_asm); (case N => exact Blk.mem (pre := [(I, it)] :: [(L + 1, oc)] :: pre) B₁); (case g => k_is); (case f => k_is); (case t => k_is); k_whole)
      k_steps
      k_dflt (refine' blk_use (pre := [(I, it)] :: [(L + 1, oc)] :: pre) (S i ow' hw) ?F ?X ?B ?T ?hD ?hU ?_; (case F => k_asm); (case X => k_asm); (case B => exact B₁); (case T => k_asm); (case hD => walk_at "mine room"); (case hU => walk_at "mine room"))
      intro v1 ow'' h2 tk2 F2 B2 P2
      try dsimp only
      clear N₂ F₁
      k_steps
      exact ⟨rfl, _, _, ow'', _, rfl, by k_asm, fun y hy => if_neg hy, B2, P2⟩
    · rintro f s' ⟨rfl, h', tk', ow'', m', rfl, F', hm', B', hw'⟩
      have hq := List.pairwise_cons.mp B'.2
      exact ⟨h', tk', m', _, rfl, F', B'.1, fun p hp e => B'.apartAll p.1 (List.mem_map_of_mem hp) (by rw [e]; exact .head _), fun y hy => (hm' y hy).trans (hm y hy), ow'', rfl, hq.2, hw'⟩
  case done =>
    intro m₁ news₁ h1 tk1 hJ F₁ N₁
    obtain ⟨hm, ow', rfl, hp, hw⟩ := hJ
    exact wpAny_execs_nil ⟨rfl, h1, tk1, ow', m₁, rfl, F₁, hm, ⟨N₁, hp⟩, hw⟩
end
end
section
section
variable {w : World} {body : List Stmt} {scope : Scope} {h₀ : Heap} {L a : Addr} {cd : Value} {m : Str → Option Value} {mean : ExcName → Option Value} {mg mb : Str → Option Value} {s : Shared} {dp un : Nat} {gd : Option (List Code)} {pre post : List (List (Addr × Obj))} {oc : Obj} {kind key o : Int} {t tk to : Tok} {ow : List (Addr × Obj)} {a1 n : Nat} {Ow : Nat → List (Addr × Obj) → Prop}
set_option maxHeartbeats 600000 in
theorem seg_again3 (hb : IsLaw w body scope) (F : Fr h₀ L s.heap m) (X : (hd.heap_39 w.params).In h₀) (T : Top hd.view_39 lawLoose mean mg mb h₀) (B : Blk h₀ L s.heap ([(L + 1, oc)] :: (pre ++ ow :: post))) (ho : oc.data = .cell (some (.int key tk)))
    (hm1 : m "counts" = some (.ref a1)) (hm2 : m "often" = some (.int o to)) (hm3 : m "kind" = some (.int kind t)) (hdp : dp ≤ 500) (hun : un ≤ 4000) (hk : kind < 2) (hfit : o ≤ 4 ∧ 2 ≤ o) (hsm : Builtin.Range.small 0 (o - 1) 1 = true) (hn : Builtin.Range.rangeSize 0 (o - 1) 1 = (n : Int)) (h0 : Ow 0 ow)
    (hi : ∀ i own, Ow i own → CInst a1 979 own) (S : ∀ i own, Ow i own → Does w 550 4700 778 [.ref a1, .int key tk] own (fun r o' => Ow (i + 1) o')) :
    wpAny (model lawProg w) ((aTop dp un gd (some [])).deeper (envOfC "law" scope L a cd)) (execs (((theFor body).drop 9).take 1) (envOfC "law" scope L a cd))
      (fun f s' => Done (f = .next ∧ ∃ h' tk' ow' m', s' = { s with heap := h', toks := tk' } ∧ Fr h₀ L h' m' ∧ (∀ y : Str, y ≠ "again" → m' y = m y) ∧ Blk h₀ L h' ([(L + 1, oc)] :: (pre ++ ow' :: post)) ∧ Ow n ow')) (fun _ _ => False) s := by
  have pt0 : Part 0 := .mk
  have pt1 : Part 1 := .mk
  have pt2 : Part 2 := .mk
  obtain ⟨rfl, rfl⟩ := hb.same (by k_is)
  simp only [theFor, List.take, List.drop]
  w_on
  clear hb
  have N : News h₀ L s.heap ((L + 1, oc) :: (pre ++ ow :: post).flatten) := B.1
  refine wpAny_execs_cons ?_
  with_unfolding_all refine For_invVF F ?k1 ?k2 ?_ (hE := PassesOwn.never)
  case k1 => exact rfl
  case k2 => exact rfl
  clear hfit
  k_steps
  unfold Hold
  (with_reducible rename IsRange _ _ _ _ _ _ _ _ => R1)
  (with_reducible rename Fr _ _ _ _ => F1)
  (with_reducible rename News _ _ _ _ => N1)
  k_dflt (refine' iter_rangeJ (n := n) (fun i m₁ news₁ => (∀ y : Str, y ≠ "again" → m₁ y = m y) ∧ ∃ ow', news₁ = ([(L + 1, oc)] :: (pre ++ ow' :: post)).flatten ∧ ([(L + 1, oc)] :: (pre ++ ow' :: post)).Pairwise Apart ∧ Ow i ow') ?hh ?hr ?hs ?hn ?F ?N ?h0 ?turn ?done; (case hh => exact rfl); (case hr => exact R1); (case hs => exact hsm); (case hn => exact hn); (case F => exact F1); (case N => exact N1); (case h0 => exact ⟨fun _ _ => rfl, ow, rfl, B.2, h0⟩))
  case turn =>
    intro i I m₁ news₁ t1 h1 tk1 hlt hJ hI F₁ N₁
    obtain ⟨hm, ow', rfl, hp, hw⟩ := hJ
    have g1 : m₁ "counts" = some (.ref a1) := (hm _ (by decide)).trans hm1
    clear F1 N1 R1
    generalize krsIt (0 + ((i + 1 : Nat) : Int) * 1) ((n : Int) - ((i + 1 : Nat) : Int)) 1 = it at N₁ ⊢
    have B₁ : Blk h₀ L h1 ([(I, it)] :: [(L + 1, oc)] :: (pre ++ ow' :: post)) := ⟨N₁, List.pairwise_cons.mpr ⟨fun c hc => apart_ofNe fun p hp q hq => by
      rw [List.mem_singleton.mp hp]
      exact (hI q (List.mem_flatten.mpr ⟨c, hc, hq⟩)).symm, hp⟩⟩
    have N₂ : News h₀ L h1 ((I, it) :: (L + 1, oc) :: (pre ++ ow' :: post).flatten) := N₁
    clear N₁
    refine wpAny_mono (Q := fun f s' => Done (f = .next ∧ ∃ h' tk' ow'' m', s' = { s with heap := h', toks := tk' } ∧ Fr h₀ L h' m' ∧ (∀ y : Str, y ≠ "again" → m' y = m₁ y) ∧ Blk h₀ L h' ([(I, it)] :: [(L + 1, oc)] :: (pre ++ ow'' :: post)) ∧ Ow (i + 1) ow'')) (E := fun _ _ => False) ?_ ?_ fun _ _ e => e
    · k_steps
      unfold Hold
      k_dflt (refine' cmethod ?F ?X (hi i ow' hw) ?N (.inl rfl) ?g ?f ?t ?_; (case F => k_asm); (case X => k_asm); (case N => exact Blk.mem (pre := [(I, it)] :: [(L + 1, oc)] :: pre) B₁); (case g => k_is); (case f => k_is); (case t => k_is); k_whole)
      k_steps
      k_dflt (refine' blk_use (pre := [(I, it)] :: [(L + 1, oc)] :: pre) (S i ow' hw) ?F ?X ?B ?T ?hD ?hU ?_; (case F => k_asm); (case X => k_asm); (case B => exact B₁); (case T => k_asm); (case hD => walk_at "mine room"); (case hU => walk_at "mine room"))
      intro v1 ow'' h2 tk2 F2 B2 P2
      try dsimp only
      clear N₂ F₁
      k_steps
      exact ⟨rfl, _, _, ow'', _, rfl, by k_asm, fun y hy => if_neg hy, B2, P2⟩
    · rintro f s' ⟨rfl, h', tk', ow'', m', rfl, F', hm', B', hw'⟩
      have hq := List.pairwise_cons.mp B'.2
      exact ⟨h', tk', m', _, rfl, F', B'.1, fun p hp e => B'.apartAll p.1 (List.mem_map_of_mem hp) (by rw [e]; exact .head _), fun y hy => (hm' y hy).trans (hm y hy), ow'', rfl, hq.2, hw'⟩
  case done =>
    intro m₁ news₁ h1 tk1 hJ F₁ N₁
    obtain ⟨hm, ow', rfl, hp, hw⟩ := hJ
    exact wpAny_execs_nil ⟨rfl, h1, tk1, ow', m₁, rfl, F₁, hm, ⟨N₁, hp⟩, hw⟩
end
end
section
section
variable {w : World} {body : List Stmt} {scope : Scope} {h₀ : Heap} {L a : Addr} {cd : Value} {m : Str → Option Value} {mean : ExcName → Option Value} {mg mb : Str → Option Value} {s : Shared} {dp un : Nat} {gd : Option (List Code)} {pre post : List (List (Addr × Obj))} {oc : Obj} {kind key o : Int} {t tk to : Tok} {ow : List (Addr × Obj)} {a1 n : Nat} {Ow : Nat → List (Addr × Obj) → Prop}
set_option maxHeartbeats 600000 in
theorem seg_again4 (hb : IsLaw w body scope) (F : Fr h₀ L s.heap m) (X : (hd.heap_39 w.params).In h₀) (T : Top hd.view_39 lawLoose mean mg mb h₀) (B : Blk h₀ L s.heap ([(L + 1, oc)] :: (pre ++ ow :: post))) (ho : oc.data = .cell (some (.int key tk)))
    (hm1 : m "counts" = some (.ref a1)) (hm2 : m "often" = some (.int o to)) (hm3 : m "kind" = some (.int kind t)) (hdp : dp ≤ 500) (hun : un ≤ 4000) (hk : ¬ kind < 2) (hfit : o ≤ 4 ∧ 2 ≤ o) (hsm : Builtin.Range.small 0 (0) 1 = true) (hn : Builtin.Range.rangeSize 0 (0) 1 = (n : Int)) (h0 : Ow 0 ow)
    (hi : ∀ i own, Ow i own → CInst a1 979 own) (S : ∀ i own, Ow i own → Does w 550 4700 778 [.ref a1, .int key tk] own (fun r o' => Ow (i + 1) o')) :
    wpAny (model lawProg w) ((aTop dp un gd (some [])).deeper (envOfC "law" scope L a cd)) (execs (((theFor body).drop 9).take 1) (envOfC "law" scope L a cd))
      (fun f s' => Done (f = .next ∧ ∃ h' tk' ow' m', s' = { s with heap := h', toks := tk' } ∧ Fr h₀ L h' m' ∧ (∀ y : Str, y ≠ "again" → m' y = m y) ∧ Blk h₀ L h' ([(L + 1, oc)] :: (pre ++ ow' :: post)) ∧ Ow n ow')) (fun _ _ => False) s := by
  have pt0 : Part 0 := .mk
  have pt1 : Part 1 := .mk
  have pt2 : Part 2 := .mk
  obtain ⟨rfl, rfl⟩ := hb.same (by k_is)
  simp only [theFor, List.take, List.drop]
  w_on
  clear hb
  have N : News h₀ L s.heap ((L + 1, oc) :: (pre ++ ow :: post).flatten) := B.1
  refine wpAny_execs_cons ?_
  with_unfolding_all refine For_invVF F ?k1 ?k2 ?_ (hE := PassesOwn.never)
  case k1 => exact rfl
  case k2 => exact rfl
  clear hfit
  k_steps
  unfold Hold
  (with_reducible rename IsRange _ _ _ _ _ _ _ _ => R1)
  (with_reducible rename Fr _ _ _ _ => F1)
  (with_reducible rename News _ _ _ _ => N1)
  k_dflt (refine' iter_rangeJ (n := n) (fun i m₁ news₁ => (∀ y : Str, y ≠ "again" → m₁ y = m y) ∧ ∃ ow', news₁ = ([(L + 1, oc)] :: (pre ++ ow' :: post)).flatten ∧ ([(L + 1, oc)] :: (pre ++ ow' :: post)).Pairwise Apart ∧ Ow i ow') ?hh ?hr ?hs ?hn ?F ?N ?h0 ?turn ?done; (case hh => exact rfl); (case hr => exact R1); (case hs => exact hsm); (case hn => exact hn); (case F => exact F1); (case N => exact N1); (case h0 => exact ⟨fun _ _ => rfl, ow, rfl, B.2, h0⟩))
  case turn =>
    intro i I m₁ news₁ t1 h1 tk1 hlt hJ hI F₁ N₁
    obtain ⟨hm, ow', rfl, hp, hw⟩ := hJ
    have g1 : m₁ "counts" = some (.ref a1) := (hm _ (by decide)).trans hm1
    clear F1 N1 R1
    generalize krsIt (0 + ((i + 1 : Nat) : Int) * 1) ((n : Int) - ((i + 1 : Nat) : Int)) 1 = it at N₁ ⊢
    have B₁ : Blk h₀ L h1 ([(I, it)] :: [(L + 1, oc)] :: (pre ++ ow' :: post)) := ⟨N₁, List.pairwise_cons.mpr ⟨fun c hc => apart_ofNe fun p hp q hq => by
      rw [List.mem_singleton.mp hp]
      exact (hI q (List.mem_flatten.mpr ⟨c, hc, hq⟩)).symm, hp⟩⟩
    have N₂ : News h₀ L h1 ((I, it) :: (L + 1, oc) :: (pre ++ ow' :: post).flatten) := N₁
    clear N₁
    refine wpAny_mono (Q := fun f s' => Done (f = .next ∧ ∃ h' tk' ow'' m', s' = { s with heap := h', toks := tk' } ∧ Fr h₀ L h' m' ∧ (∀ y : Str, y ≠ "again" → m' y = m₁ y) ∧ Blk h₀ L h' ([(I, it)] :: [(L + 1, oc)] :: (pre ++ ow'' :: post)) ∧ Ow (i + 1) ow'')) (E := fun _ _ => False) ?_ ?_ fun _ _ e => e
    · k_steps
      unfold Hold
      k_dflt (refine' cmethod ?F ?X (hi i ow' hw) ?N (.inl rfl) ?g ?f ?t ?_; (case F => k_asm); (case X => k_asm); (case N => exact Blk.mem (pre := [(I, it)] :: [(L + 1, oc)] :: pre) B₁); (case g => k_is); (case f => k_is); (case t => k_is); k_whole)
      k_steps
      k_dflt (refine' blk_use (pre := [(I, it)] :: [(L + 1, oc)] :: pre) (S i ow' hw) ?F ?X ?B ?T ?hD ?hU ?_; (case F => k_asm); (case X => k_asm); (case B => exact B₁); (case T => k_asm); (case hD => walk_at "mine room"); (case hU => walk_at "mine room"))
      intro v1 ow'' h2 tk2 F2 B2 P2
      try dsimp only
      clear N₂ F₁
      k_steps
      exact ⟨rfl, _, _, ow'', _, rfl, by k_asm, fun y hy => if_neg hy, B2, P2⟩
    · rintro f s' ⟨rfl, h', tk', ow'', m', rfl, F', hm', B', hw'⟩
      have hq := List.pairwise_cons.mp B'.2
      exact ⟨h', tk', m', _, rfl, F', B'.1, fun p hp e => B'.apartAll p.1 (List.mem_map_of_mem hp) (by rw [e]; exact .head _), fun y hy => (hm' y hy).trans (hm y hy), ow'', rfl, hq.2, hw'⟩
  case done =>
    intro m₁ news₁ h1 tk1 hJ F₁ N₁
    obtain ⟨hm, ow', rfl, hp, hw⟩ := hJ
    exact wpAny_execs_nil ⟨rfl, h1, tk1, ow', m₁, rfl, F₁, hm, ⟨N₁, hp⟩, hw⟩
end
end
section
section
variable {w : World} {body : List Stmt} {scope : Scope} {h₀ : Heap} {L a : Addr} {cd : Value} {m : Str → Option Value} {mean : ExcName → Option Value} {mg mb : Str → Option Value} {s : Shared} {dp un : Nat} {gd : Option (List Code)} {pre post : List (List (Addr × Obj))} {oc : Obj} {kind key : Int} {t tk : Tok} {ow1 ow2 : List (Addr × Obj)} {a1 a2 C : Nat} {kvs1 kvs2 : List (Int × Value)}
/-- the law's inner check: its body -/
def checkBody (body : List Stmt) : List Stmt := theFor ((theFor body).drop 12)
set_option maxHeartbeats 600000 in
theorem seg_check (hb : IsLaw w body scope) (F : Fr h₀ L s.heap m) (X : (hd.heap_39 w.params).In h₀) (T : Top hd.view_39 lawLoose mean mg mb h₀) (B : Blk h₀ L s.heap ([(L + 1, oc)] :: (pre ++ ow1 :: ow2 :: post))) (ho : oc.data = .cell (some (.int key tk)))
    (hm1 : m "one" = some (.ref a1)) (hm2 : m "other" = some (.ref a2)) (hm3 : m "kind" = some (.int kind t)) (hdp : dp ≤ 500) (hun : un ≤ 4000)
    (c1 : Cch w a1 C kvs1 ow1) (c2 : Cch w a2 C kvs2 ow2) (hC : C = 1044 ∨ C = 979 ∨ C = 882) (hz1 : kvs1.length < 64) (hz2 : kvs2.length < 64) (hp : (kvs1.map (·.1)).Perm (kvs2.map (·.1))) (hk : kind = 0 → (valueAt kvs1 key).isSome = true) :
    wpAny (model lawProg w) ((aTop dp un gd (some [])).deeper (envOfC "law" scope L a cd)) (execs (checkBody body) (envOfC "law" scope L a cd))
      (fun f s' => Done (f = .next ∧ ∃ h' tk', s' = { s with heap := h', toks := tk' } ∧ Fr h₀ L h' m ∧ Blk h₀ L h' ([(L + 1, oc)] :: (pre ++ ow1 :: ow2 :: post)))) (fun _ _ => False) s := by
  have pt0 : Part 0 := .mk
  have pt3 : Part 3 := .mk
  have pt4 : Part 4 := .mk
  have pt5 : Part 5 := .mk
  have pt6 : Part 6 := .mk
  obtain ⟨rfl, rfl⟩ := hb.same (by k_is)
  simp only [checkBody, theFor, List.take, List.drop]
  w_on
  clear hb
  have N : News h₀ L s.heap ((L + 1, oc) :: (pre ++ ow1 :: ow2 :: post).flatten) := B.1
  have hl : (kvs1.length : Int) = kvs2.length := by
    have := hp.length_eq
    simp only [List.length_map] at this
    omega
  k_steps
  unfold Hold
  k_dflt (refine' blk_sorted (pre := [(L + 1, oc)] :: pre) c1 hC ?F ?X ?B ?T ?hD ?hU hz1 ?_; (case F => k_asm); (case X => k_asm); (case B => exact B); (case T => k_asm); (case hD => walk_at "mine room"); (case hU => walk_at "mine room"))
  intro D1 vs1 ns1 cc1 h1 tk1 F1 B1 i1 p1 s1
  try dsimp only
  clear N F
  have N : News h₀ L h1 ((D1, PySem.W.listOf vs1.toArray cc1) :: (L + 1, oc) :: (pre ++ ow1 :: ow2 :: post).flatten) := B1.1
  k_steps
  unfold Hold
  k_dflt (refine' blk_sorted (pre := ([(D1, PySem.W.listOf vs1.toArray cc1)] :: [(L + 1, oc)] :: pre) ++ [ow1]) c2 hC ?F ?X ?B ?T ?hD ?hU hz2 ?_; (case F => k_asm); (case X => k_asm); (case B => exact Blk.nxt (pre := [(D1, PySem.W.listOf vs1.toArray cc1)] :: [(L + 1, oc)] :: pre) B1); (case T => k_asm); (case hD => walk_at "mine room"); (case hU => walk_at "mine room"))
  intro D2 vs2 ns2 cc2 h2 tk2 F2 B2 i2 p2 s2
  try dsimp only
  clear N F1
  have B3 : Blk h₀ L h2 ([(D1, PySem.W.listOf vs1.toArray cc1)] :: [(L + 1, oc)] :: (pre ++ ow1 :: ow2 :: post)) := Blk.prv B2.tail
  have L2 := News.isList (Blk.mem (pre := []) B2) (List.Mem.head _)
  have L1 := News.isList (Blk.mem (pre := []) B3) (List.Mem.head _)
  have B4 := B3.tail
  clear B2 B3
  obtain rfl := sorted_same (p1.trans (hp.trans p2.symm)) s1 s2
  have N : News h₀ L h2 ((L + 1, oc) :: (pre ++ ow1 :: ow2 :: post).flatten) := B4.1
  k_steps
  unfold Hold
  k_dflt (refine' ke_ne_ints L1 L2 i1 i2 ?hu ?_; (case hu => ((try dsimp only [aTop, Around.in1, Around.deeper]); unfold cLine; omega)))
  simp only [decide_true, Bool.not_true]
  clear L1 L2 i1 i2
  k_steps
  unfold Hold
  k_dflt (refine' blk_len (pre := [(L + 1, oc)] :: pre) c1 hC ?F ?X ?B ?T ?hD ?hU hz1 ?_; (case F => k_asm); (case X => k_asm); (case B => exact B4); (case T => k_asm); (case hD => walk_at "mine room"); (case hU => walk_at "mine room"))
  intro h3 tk3 tl3 F3 B5
  try dsimp only
  clear N F2
  have N : News h₀ L h3 ((L + 1, oc) :: (pre ++ ow1 :: ow2 :: post).flatten) := B5.1
  k_steps
  unfold Hold
  k_dflt (refine' blk_len (pre := ([(L + 1, oc)] :: pre) ++ [ow1]) c2 hC ?F ?X ?B ?T ?hD ?hU hz2 ?_; (case F => k_asm); (case X => k_asm); (case B => exact Blk.nxt (pre := [(L + 1, oc)] :: pre) B5); (case T => k_asm); (case hD => walk_at "mine room"); (case hU => walk_at "mine room"))
  intro h4 tk4 tl4 F4 B6
  try dsimp only
  clear N F3
  have B7 : Blk h₀ L h4 ([(L + 1, oc)] :: (pre ++ ow1 :: ow2 :: post)) := Blk.prv B6
  have N : News h₀ L h4 ((L + 1, oc) :: (pre ++ ow1 :: ow2 :: post).flatten) := B7.1
  by_cases hk0 : kind = 0
  · have hk1 := hk hk0
    k_steps
    unfold Hold
    k_dflt (refine' blk_notIn (pre := [(L + 1, oc)] :: pre) c1 hC ?F ?X ?B ?T ?hD ?hU ?_; (case F => k_asm); (case X => k_asm); (case B => exact B7); (case T => k_asm); (case hD => walk_at "mine room"); (case hU => walk_at "mine room"))
    intro h5 tk5 F5 B8
    rw [hk1]
    simp only [Bool.not_true]
    try dsimp only
    clear N F4
    have N : News h₀ L h5 ((L + 1, oc) :: (pre ++ ow1 :: ow2 :: post).flatten) := B8.1
    k_steps
    exact ⟨rfl, _, _, rfl, by k_asm, B8⟩
  · k_steps
    exact ⟨rfl, _, _, rfl, by k_asm, B7⟩
end
end
section
/-- what a loop's turn is bound to -/
def forTarget : List Stmt → PySem.Expr
  | .For t _ _ _ _ :: _ => t
  | _ :: r => forTarget r
  | [] => .Name "" ⟨0, 0, 0, 0⟩
section
variable {w : World} {body : List Stmt} {scope : Scope} {h₀ : Heap} {L a : Addr} {cd : Value} {m : Str → Option Value} {mean : ExcName → Option Value} {mg mb : Str → Option Value} {s : Shared} {dp un : Nat} {gd : Option (List Code)} {rest : List (Addr × Obj)} {oc : Obj} {oT : Obj} {kind key : Int} {t tk : Tok} {ow1 ow2 : List (Addr × Obj)} {a1 a2 C T' : Nat} {kvs1 kvs2 : List (Int × Value)} {K : Shared → Prop}
set_option maxHeartbeats 600000 in
theorem assign_pair (hb : IsLaw w body scope) (F : Fr h₀ L s.heap m) (X : (hd.heap_39 w.params).In h₀) (T : Top hd.view_39 lawLoose mean mg mb h₀) (N : News h₀ L s.heap ((T', { cls := .type "tuple", data := .seq #[.ref a1, .ref a2] }) :: rest))
    (h : ∀ h' tk', Fr h₀ L h' (fun y => if y = "other" then some (.ref a2) else if y = "one" then some (.ref a1) else m y) → News h₀ L h' ((T', { cls := .type "tuple", data := .seq #[.ref a1, .ref a2] }) :: rest) → K { s with heap := h', toks := tk' }) :
    wpAny (model lawProg w) ((aTop dp un gd (some [])).deeper (envOfC "law" scope L a cd)) (assign (forTarget ((theFor body).drop 12)) (envOfC "law" scope L a cd) (.ref T')) (fun _ s₂ => K s₂) (fun _ _ => False) s := by
  have pt0 : Part 0 := .mk
  have pt1 : Part 1 := .mk
  obtain ⟨rfl, rfl⟩ := hb.same (by k_is)
  simp only [forTarget, theFor, List.take, List.drop]
  w_on
  clear hb
  k_steps
  exact h _ _ (by k_asm) (by k_asm)
end
end
section
section
variable {w : World} {body : List Stmt} {scope : Scope} {h₀ : Heap} {L a : Addr} {cd : Value} {m : Str → Option Value} {mean : ExcName → Option Value} {mg mb : Str → Option Value} {s : Shared} {dp un : Nat} {gd : Option (List Code)} {pre post : List (List (Addr × Obj))} {oc oI : Obj} {TB : List (Addr × Obj)} {kind key : Int} {t tk : Tok} {ow1 ow2 : List (Addr × Obj)} {a1 a2 C I T' : Nat} {kvs1 kvs2 : List (Int × Value)}
theorem check_item (hb : IsLaw w body scope) (F : Fr h₀ L s.heap m) (X : (hd.heap_39 w.params).In h₀) (T : Top hd.view_39 lawLoose mean mg mb h₀) (B : Blk h₀ L s.heap ([(I, oI)] :: TB :: [(L + 1, oc)] :: (pre ++ ow1 :: ow2 :: post))) (ho : oc.data = .cell (some (.int key tk)))
    (hT : (T', tup2 a1 a2) ∈ TB) (hm3 : m "kind" = some (.int kind t)) (hdp : dp ≤ 500) (hun : un ≤ 4000)
    (c1 : Cch w a1 C kvs1 ow1) (c2 : Cch w a2 C kvs2 ow2) (hC : C = 1044 ∨ C = 979 ∨ C = 882) (hz1 : kvs1.length < 64) (hz2 : kvs2.length < 64) (hp : (kvs1.map (·.1)).Perm (kvs2.map (·.1))) (hk : kind = 0 → (valueAt kvs1 key).isSome = true) :
    wpAny (model lawProg w) ((aTop dp un gd (some [])).deeper (envOfC "law" scope L a cd)) (assign (forTarget ((theFor body).drop 12)) (envOfC "law" scope L a cd) (.ref T')) (fun _ s₂ =>
      wpAny (model lawProg w) ((aTop dp un gd (some [])).deeper (envOfC "law" scope L a cd)) (execs (checkBody body) (envOfC "law" scope L a cd))
        (fun f s' => f = .next ∧ ∃ h' tk' m', s' = { s with heap := h', toks := tk' } ∧ Fr h₀ L h' m' ∧ (∀ y : Str, y ≠ "one" → y ≠ "other" → m' y = m y) ∧ Blk h₀ L h' ([(I, oI)] :: TB :: [(L + 1, oc)] :: (pre ++ ow1 :: ow2 :: post))) (fun _ _ => False) s₂) (fun _ _ => False) s := by
  have N : News h₀ L s.heap ((T', tup2 a1 a2) :: ([(I, oI)] :: TB :: [(L + 1, oc)] :: (pre ++ ow1 :: ow2 :: post)).flatten) := news_sub B.1 (fun p hp => by
    rcases List.mem_cons.mp hp with rfl | hp
    · exact List.mem_append_right _ (List.mem_append_left _ hT)
    · exact hp)
  refine assign_pair hb F X T N (K := fun s₂ => wpAny _ _ _ _ _ s₂) fun h' tk' F' N' => ?_
  have B' := B.keepFrom (news_drop N')
  have pm : ([(I, oI)] :: TB :: [(L + 1, oc)] :: (pre ++ ow1 :: ow2 :: post)).Perm ([(L + 1, oc)] :: (([(I, oI)] :: TB :: pre) ++ ow1 :: ow2 :: post)) := List.perm_middle (l₁ := [[(I, oI)], TB])
  refine wpAny_mono (seg_check (pre := [(I, oI)] :: TB :: pre) (kind := kind) (t := t) hb F' X T (B'.perm pm) ho ((if_neg (by decide)).trans (if_pos rfl)) (if_pos rfl) ((if_neg (by decide)).trans ((if_neg (by decide)).trans hm3)) hdp hun c1 c2 hC hz1 hz2 hp hk) ?_ fun _ _ e => e
  rintro f s' ⟨rfl, h2, tk2, rfl, F2, B2⟩
  exact ⟨rfl, h2, tk2, _, rfl, F2, fun y h1 h2 => (if_neg h2).trans (if_neg h1), B2.perm pm.symm⟩
end
end
section
section
variable {w : World} {body : List Stmt} {scope : Scope} {h₀ : Heap} {L a : Addr} {cd : Value} {m : Str → Option Value} {mean : ExcName → Option Value} {mg mb : Str → Option Value} {s : Shared} {dp un : Nat} {gd : Option (List Code)} {post : List (List (Addr × Obj))} {oc : Obj} {kind key : Int} {t tk : Tok} {o1 o2 o3 o4 o5 o6 : List (Addr × Obj)} {a1 a2 a3 a4 a5 a6 : Nat} {k1 k2 k3 k4 k5 k6 : List (Int × Value)}
set_option maxHeartbeats 1000000 in
theorem seg_checks (hb : IsLaw w body scope) (F : Fr h₀ L s.heap m) (X : (hd.heap_39 w.params).In h₀) (T : Top hd.view_39 lawLoose mean mg mb h₀) (B : Blk h₀ L s.heap ([(L + 1, oc)] :: o1 :: o2 :: o3 :: o4 :: o5 :: o6 :: post)) (ho : oc.data = .cell (some (.int key tk)))
    (hm1 : m "recent" = some (.ref a1)) (hm2 : m "recents" = some (.ref a2)) (hm3 : m "count" = some (.ref a3)) (hm4 : m "counts" = some (.ref a4)) (hm5 : m "first" = some (.ref a5)) (hm6 : m "firsts" = some (.ref a6)) (hmk : m "kind" = some (.int kind t)) (hdp : dp ≤ 500) (hun : un ≤ 4000)
    (c1 : Cch w a1 1044 k1 o1) (c2 : Cch w a2 1044 k2 o2) (c3 : Cch w a3 979 k3 o3) (c4 : Cch w a4 979 k4 o4) (c5 : Cch w a5 882 k5 o5) (c6 : Cch w a6 882 k6 o6)
    (hz1 : k1.length < 64) (hz2 : k2.length < 64) (hz3 : k3.length < 64) (hz4 : k4.length < 64) (hz5 : k5.length < 64) (hz6 : k6.length < 64)
    (hp1 : (k1.map (·.1)).Perm (k2.map (·.1))) (hp2 : (k3.map (·.1)).Perm (k4.map (·.1))) (hp3 : (k5.map (·.1)).Perm (k6.map (·.1)))
    (hk1 : kind = 0 → (valueAt k1 key).isSome = true) (hk2 : kind = 0 → (valueAt k3 key).isSome = true) (hk3 : kind = 0 → (valueAt k5 key).isSome = true) :
    wpAny (model lawProg w) ((aTop dp un gd (some [])).deeper (envOfC "law" scope L a cd)) (execs ((theFor body).drop 12) (envOfC "law" scope L a cd))
      (fun f s' => Done (f = .next ∧ ∃ h' tk' m', s' = { s with heap := h', toks := tk' } ∧ Fr h₀ L h' m' ∧ (∀ y : Str, y ≠ "one" → y ≠ "other" → m' y = m y) ∧ Blk h₀ L h' ([(L + 1, oc)] :: o1 :: o2 :: o3 :: o4 :: o5 :: o6 :: post))) (fun _ _ => False) s := by
  have pt0 : Part 0 := .mk
  have pt1 : Part 1 := .mk
  have hb' := hb
  obtain ⟨rfl, rfl⟩ := hb.same (by k_is)
  simp only [theFor, List.drop]
  w_on
  clear hb
  have N : News h₀ L s.heap ((L + 1, oc) :: (o1 :: o2 :: o3 :: o4 :: o5 :: o6 :: post).flatten) := B.1
  refine wpAny_execs_cons ?_
  with_unfolding_all refine For_turns F ?_ (hE := PassesOwn.never)
  k_steps
  unfold Hold
  (with_reducible rename _ < _ ∧ AllLt _ _ => q1)
  (with_reducible rename _ < _ ∧ _ < _ ∧ AllLt _ _ => q2)
  (with_reducible rename _ < _ ∧ _ < _ ∧ _ < _ ∧ AllLt _ _ => q3)
  (with_reducible rename _ < _ ∧ _ < _ ∧ _ < _ ∧ _ < _ ∧ AllLt _ _ => q4)
  (with_reducible rename Fr _ _ _ _ => F1)
  (with_reducible rename News _ _ _ _ => N1)
  have B1 := four_blk B N1 q1 q2 q3 q4
  k_dflt (refine' iter_tupTurns rfl F1 B1.1 (List.Mem.head _) rfl rfl ?_)
  intro I hI
  have G0 : ∀ m' : Str → Option Value, (∀ y : Str, y ≠ "one" → y ≠ "other" → m' y = m y) → m' "kind" = some (.int kind t) := fun m' g => (g _ (by decide) (by decide)).trans hmk
  k_dflt (refine' items_step (fun m' => ∀ y : Str, y ≠ "one" → y ≠ "other" → m' y = m y) (fun oI h tk F B => ?_) (fun m1 g1 => ?_) B1.2 hI ⟨List.Mem.head _, trivial⟩)
  · refine wpAny_mono (check_item (pre := []) (post := o3 :: o4 :: o5 :: o6 :: post) hb' F X T B ho (.tail _ (.tail _ (.tail _ (.head _)))) (G0 _ fun _ _ _ => rfl) hdp hun c1 c2 (.inl rfl) hz1 hz2 hp1 hk1) (fun _ s₂ h₂ => wpAny_mono h₂ (fun f s' h₃ => ?_) fun _ _ e => e) fun _ _ e => e
    exact h₃
  k_dflt (refine' items_step (fun m' => ∀ y : Str, y ≠ "one" → y ≠ "other" → m' y = m y) (fun oI h tk F B => ?_) (fun m2 g2 => ?_) B1.2 hI ⟨List.Mem.head _, trivial⟩)
  · refine wpAny_mono (check_item (pre := [o1, o2]) (post := o5 :: o6 :: post) hb' F X T B ho (.tail _ (.tail _ (.head _))) (G0 _ g1) hdp hun c3 c4 (.inr (.inl rfl)) hz3 hz4 hp2 hk2) (fun _ s₂ h₂ => wpAny_mono h₂ (fun f s' h₃ => ?_) fun _ _ e => e) fun _ _ e => e
    obtain ⟨rfl, h2, tk2, m3, rfl, F2, g3, B2⟩ := h₃
    exact ⟨rfl, h2, tk2, m3, rfl, F2, fun y e1 e2 => (g3 y e1 e2).trans (g1 y e1 e2), B2⟩
  k_dflt (refine' items_step (fun m' => ∀ y : Str, y ≠ "one" → y ≠ "other" → m' y = m y) (fun oI h tk F B => ?_) (fun m3 g3 => ?_) B1.2 hI ⟨List.Mem.head _, trivial⟩)
  · refine wpAny_mono (check_item (pre := [o1, o2, o3, o4]) (post := post) hb' F X T B ho (.tail _ (.head _)) (G0 _ g2) hdp hun c5 c6 (.inr (.inr rfl)) hz5 hz6 hp3 hk3) (fun _ s₂ h₂ => wpAny_mono h₂ (fun f s' h₃ => ?_) fun _ _ e => e) fun _ _ e => e
    obtain ⟨rfl, h2, tk2, m3, rfl, F2, g3, B2⟩ := h₃
    exact ⟨rfl, h2, tk2, m3, rfl, F2, fun y e1 e2 => (g3 y e1 e2).trans (g2 y e1 e2), B2⟩
  refine ItemsRest.zero fun h tk F N => wpAny_execs_nil ?_
  exact ⟨rfl, h, tk, m3, rfl, F, g3, Blk.tail ⟨N, B1.2⟩⟩
end
end
section
section
variable {w : World} {body : List Stmt} {scope : Scope} {h₀ : Heap} {L a l : Addr} {cd : Value} {m : Str → Option Value} {mean : ExcName → Option Value} {mg mb : Str → Option Value} {s : Shared} {dp un : Nat} {gd : Option (List Code)} {oc : Obj} {vs : List Value} {ns : List Int}
set_option maxHeartbeats 1000000 in
theorem law_top1 (hb : IsLaw w body scope) (F : Fr h₀ L s.heap m) (X : (hd.heap_39 w.params).In h₀) (T : Top hd.view_39 lawLoose mean mg mb h₀) (N : News h₀ L s.heap [(L + 1, oc)])
    (hl : h₀.IsList l vs.toArray) (hI : IntsAre vs ns) (hz : ns.length ≤ 63) (hms : m "script" = some (.ref l)) :
    wpAny (model lawProg w) ((aTop dp un gd (some [])).deeper (envOfC "law" scope L a cd)) (execs (body.take 3) (envOfC "law" scope L a cd))
      (fun f s' => Done (f = .next ∧ ∃ (h' : Heap) (tk' : Nat) (D : Nat) (nvs : List Value) (m' : Str → Option Value) (p o : Int) (tp to : Tok), s' = { s with heap := h', toks := tk' } ∧ Fr h₀ L h' m' ∧ m' "numbers" = some (.ref D) ∧ m' "places" = some (.int p tp) ∧ m' "often" = some (.int o to) ∧ m' "script" = some (.ref l) ∧
        News h₀ L h' [(D, PySem.W.listOf nvs.toArray 0), (L + 1, oc)] ∧ L + 1 < D ∧ IntsAre nvs (ns.take 26 ++ [0, 0]) ∧ 1 ≤ p ∧ p ≤ 4 ∧ 2 ≤ o ∧ o ≤ 4)) (fun _ _ => False) s := by
  have pt0 : Part 0 := .mk
  have pt1 : Part 1 := .mk
  obtain ⟨rfl, rfl⟩ := hb.same (by k_is)
  simp only [List.take]
  w_on
  clear hb
  k_steps
  (with_reducible rename Fr _ _ _ _ => F1)
  (with_reducible rename News _ _ _ _ => N1)
  (with_reducible rename IntsAre _ (_ ++ _) => I1)
  (with_reducible rename _ < _ ∧ _ < _ ∧ _ < _ => q1)
  have b1 := fun x : Int => Int.fmod_nonneg_of_pos x (show (0 : Int) < 4 by decide)
  have b2 := fun x : Int => Int.fmod_lt_of_pos x (show (0 : Int) < 4 by decide)
  have b3 := fun x : Int => Int.fmod_nonneg_of_pos x (show (0 : Int) < 3 by decide)
  have b4 := fun x : Int => Int.fmod_lt_of_pos x (show (0 : Int) < 3 by decide)
  refine ⟨rfl, _, _, _, _, _, _, _, _, _, rfl, F1, by walk_at "mine look", by walk_at "mine look", by walk_at "mine look", by walk_at "mine look", news_sub N1 ?_, q1.2.2, I1, Int.le_add_of_nonneg_left (b1 _), by have := b2 ((ns.take 26 ++ [0, 0]).getD (Int.toNat 0) 0); omega, Int.le_add_of_nonneg_left (b3 _), by have := b4 ((ns.take 26 ++ [0, 0]).getD (Int.toNat 1) 0); omega⟩
  intro q hq
  simp only [List.mem_cons, List.not_mem_nil, or_false] at hq ⊢
  rcases hq with h | h
  · exact .inl h
  · exact .inr (.inr (.inr h))
end
end
section
section
variable {w : World} {body : List Stmt} {scope : Scope} {h₀ : Heap} {L a l : Addr} {cd : Value} {m : Str → Option Value} {mean : ExcName → Option Value} {mg mb : Str → Option Value} {s : Shared} {dp un : Nat} {gd : Option (List Code)} {oc : Obj} {num : Addr × Obj} {p : Int} {tp : Tok}
set_option maxHeartbeats 1000000 in
theorem law_top2 (hb : IsLaw w body scope) (F : Fr h₀ L s.heap m) (X : (hd.heap_39 w.params).In h₀) (T : Top hd.view_39 lawLoose mean mg mb h₀) (B : Blk h₀ L s.heap [[num], [(L + 1, oc)]])
    (hmp : m "places" = some (.int p tp)) (hp : 1 ≤ p) (hdp : dp ≤ 500) (hun : un ≤ 4000) :
    wpAny (model lawProg w) ((aTop dp un gd (some [])).deeper (envOfC "law" scope L a cd)) (execs ((body.drop 3).take 4) (envOfC "law" scope L a cd))
      (fun f s' => Done (f = .next ∧ ∃ (h' : Heap) (tk' : Nat) (D a1 a2 a3 a4 a5 a6 : Nat) (o1 o2 o3 o4 o5 o6 : List (Addr × Obj)) (m' : Str → Option Value), s' = { s with heap := h', toks := tk' } ∧ Fr h₀ L h' m' ∧ m' "order" = some (.ref D) ∧ m' "recent" = some (.ref a1) ∧ m' "recents" = some (.ref a2) ∧ m' "count" = some (.ref a3) ∧ m' "counts" = some (.ref a4) ∧ m' "first" = some (.ref a5) ∧ m' "firsts" = some (.ref a6) ∧
        (∀ y : Str, y ∉ (["order", "recent", "recents", "count", "counts", "first", "firsts"] : List Str) → m' y = m y) ∧ Blk h₀ L h' ([(L + 1, oc)] :: [(D, PySem.W.listOf #[] 0)] :: [num] :: o1 :: o2 :: o3 :: o4 :: o5 :: o6 :: []) ∧
        OrdS w 1044 "_LRUCache__order" a1 p [] [] o1 ∧ OrdS w 1044 "_LRUCache__order" a2 p [] [] o2 ∧ Lfu w a3 p [] [] o3 ∧ Lfu w a4 p [] [] o4 ∧ OrdS w 882 "_FIFOCache__order" a5 p [] [] o5 ∧ OrdS w 882 "_FIFOCache__order" a6 p [] [] o6)) (fun _ _ => False) s := by
  have pt0 : Part 0 := .mk
  have pt1 : Part 1 := .mk
  have pt7 : Part 7 := .mk
  obtain ⟨rfl, rfl⟩ := hb.same (by k_is)
  simp only [List.take, List.drop]
  w_on
  clear hb
  have N : News h₀ L s.heap (num :: (L + 1, oc) :: []) := B.1
  k_steps
  unfold Hold
  k_dflt (refine' blk_new (lru_new (w := w) hp) ?F ?X ?B ?T ?hD ?hU ?_; (case F => k_asm); (case X => k_asm); (case B => exact B); (case T => k_asm); (case hD => walk_at "mine room"); (case hU => walk_at "mine room"))
  intro v1 q1 h1 tk1 F1 B1 P1
  obtain ⟨a1, rfl, O1⟩ := P1
  try dsimp only
  clear N F
  k_sweep
  have N : News h₀ L h1 (q1 :: [[num], [(L + 1, oc)]]).flatten := B1.1
  k_steps
  unfold Hold
  k_dflt (refine' blk_new (lru_new (w := w) hp) ?F ?X ?B ?T ?hD ?hU ?_; (case F => k_asm); (case X => k_asm); (case B => exact B1); (case T => k_asm); (case hD => walk_at "mine room"); (case hU => walk_at "mine room"))
  intro v2 q2 h2 tk2 F2 B2 P2
  obtain ⟨a2, rfl, O2⟩ := P2
  try dsimp only
  clear N
  k_sweep
  have N : News h₀ L h2 (q2 :: q1 :: [[num], [(L + 1, oc)]]).flatten := B2.1
  k_steps
  unfold Hold
  k_dflt (refine' blk_new (lfu_new (w := w) hp) ?F ?X ?B ?T ?hD ?hU ?_; (case F => k_asm); (case X => k_asm); (case B => exact Blk.keepFrom B2 (news_drop (by k_asm))); (case T => k_asm); (case hD => walk_at "mine room"); (case hU => walk_at "mine room"))
  intro v3 q3 h3 tk3 F3 B3 P3
  obtain ⟨a3, rfl, O3⟩ := P3
  try dsimp only
  k_sweep
  have N : News h₀ L h3 (q3 :: q2 :: q1 :: [[num], [(L + 1, oc)]]).flatten := B3.1
  k_steps
  unfold Hold
  k_dflt (refine' blk_new (lfu_new (w := w) hp) ?F ?X ?B ?T ?hD ?hU ?_; (case F => k_asm); (case X => k_asm); (case B => exact B3); (case T => k_asm); (case hD => walk_at "mine room"); (case hU => walk_at "mine room"))
  intro v4 q4 h4 tk4 F4 B4 P4
  obtain ⟨a4, rfl, O4⟩ := P4
  try dsimp only
  clear N
  k_sweep
  have N : News h₀ L h4 (q4 :: q3 :: q2 :: q1 :: [[num], [(L + 1, oc)]]).flatten := B4.1
  k_steps
  unfold Hold
  k_dflt (refine' blk_new (fifo_new (w := w) hp) ?F ?X ?B ?T ?hD ?hU ?_; (case F => k_asm); (case X => k_asm); (case B => exact Blk.keepFrom B4 (news_drop (by k_asm))); (case T => k_asm); (case hD => walk_at "mine room"); (case hU => walk_at "mine room"))
  intro v5 q5 h5 tk5 F5 B5 P5
  obtain ⟨a5, rfl, O5⟩ := P5
  try dsimp only
  k_sweep
  have N : News h₀ L h5 (q5 :: q4 :: q3 :: q2 :: q1 :: [[num], [(L + 1, oc)]]).flatten := B5.1
  k_steps
  unfold Hold
  k_dflt (refine' blk_new (fifo_new (w := w) hp) ?F ?X ?B ?T ?hD ?hU ?_; (case F => k_asm); (case X => k_asm); (case B => exact B5); (case T => k_asm); (case hD => walk_at "mine room"); (case hU => walk_at "mine room"))
  intro v6 q6 h6 tk6 F6 B6 P6
  obtain ⟨a6, rfl, O6⟩ := P6
  try dsimp only
  clear N
  k_sweep
  have N : News h₀ L h6 (q6 :: q5 :: q4 :: q3 :: q2 :: q1 :: [[num], [(L + 1, oc)]]).flatten := B6.1
  k_steps
  (with_reducible rename Fr _ _ _ _ => F7)
  (with_reducible rename News _ _ _ _ => N7)
  (with_reducible rename _ < _ ∧ AllLt _ _ => qq)
  have B7 := Blk.ofFresh (b := [(_, PySem.W.listOf #[] 0)]) (news_sub N7 (fun z hz => (List.mem_cons.mp hz).elim (fun e => e ▸ List.Mem.head _) (fun h => .tail _ (.tail _ h)))) B6 (fun z hz q hq => by rw [List.mem_singleton.mp hz]; exact allLt_all qq.2 q hq)
  have pm : ∀ od : List (Addr × Obj), [od, q6, q5, q4, q3, q2, q1, [num], [(L + 1, oc)]].Perm ([(L + 1, oc)] :: od :: [num] :: q1 :: q2 :: q3 :: q4 :: q5 :: q6 :: []) := fun od =>
    (List.reverse_perm [od, q6, q5, q4, q3, q2, q1, [num], [(L + 1, oc)]]).symm.trans (.cons _ (List.perm_middle (l₁ := [[num], q1, q2, q3, q4, q5, q6]) (l₂ := [])))
  refine ⟨rfl, _, _, _, a1, a2, a3, a4, a5, a6, q1, q2, q3, q4, q5, q6, _, rfl, F7, by walk_at "mine look", by walk_at "mine look", by walk_at "mine look", by walk_at "mine look", by walk_at "mine look", by walk_at "mine look", by walk_at "mine look", ?_, B7.perm (pm _), O1, O2, O3, O4, O5, O6⟩
  intro y hy
  simp only [List.mem_cons, List.not_mem_nil, or_false, not_or] at hy
  obtain ⟨y1, y2, y3, y4, y5, y6, y7⟩ := hy
  simp only [if_neg y1, if_neg y2, if_neg y3, if_neg y4, if_neg y5, if_neg y6, if_neg y7]
end
end
section
theorem range2 {b : Int} (h : b ≤ 25) (h0 : -1 ≤ b) : Builtin.Range.small 2 b 2 = true ∧ ∃ n : Nat, Builtin.Range.rangeSize 2 b 2 = (n : Int) ∧ ∀ i : Nat, i < n → 2 + (i : Int) * 2 < b := by
  have pt0 : Part 0 := .mk
  have pt1 : Part 1 := .mk
  have : ∀ c : Nat, c ≤ 26 → Builtin.Range.small 2 ((c : Int) - 1) 2 = true ∧ Builtin.Range.rangeSize 2 ((c : Int) - 1) 2 = (((c - 2) / 2 : Nat) : Int) := by decide +kernel
  obtain ⟨c, rfl⟩ : ∃ c : Nat, b = (c : Int) - 1 := ⟨(b + 1).toNat, by omega⟩
  obtain ⟨h1, h2⟩ := this c (by omega)
  exact ⟨h1, _, h2, fun i hi => by omega⟩
theorem range2_of {h : Heap} {r : Addr} {b : Int} {t u v : Tok} (_R : IsRange h r 2 b 2 t u v) (h : b ≤ 25) (h0 : -1 ≤ b) : Builtin.Range.small 2 b 2 = true ∧ ∃ n : Nat, Builtin.Range.rangeSize 2 b 2 = (n : Int) ∧ ∀ i : Nat, i < n → 2 + (i : Int) * 2 < b := range2 h h0
section
variable {w : World} {body : List Stmt} {scope : Scope} {h₀ : Heap} {L a l : Addr} {cd : Value} {m : Str → Option Value} {mean : ExcName → Option Value} {mg mb : Str → Option Value} {s : Shared} {dp un : Nat} {gd : Option (List Code)} {vs : List Value} {ns : List Int} {bs : List (List (Addr × Obj))} {P : (Str → Option Value) → List (List (Addr × Obj)) → Prop}
set_option maxHeartbeats 1000000 in
theorem law_loop (hb : IsLaw w body scope) (F : Fr h₀ L s.heap m) (X : (hd.heap_39 w.params).In h₀) (T : Top hd.view_39 lawLoose mean mg mb h₀) (B : Blk h₀ L s.heap bs)
    (hl : h₀.IsList l vs.toArray) (hI : IntsAre vs ns) (hz : ns.length ≤ 63) (hms : m "script" = some (.ref l)) (hP : P m bs)
    (turn : ∀ (s₁ : Shared) (m₁ : Str → Option Value) (k : Int) (t : Tok) (bs₁ : List (List (Addr × Obj))) (x : List (Addr × Obj)), 2 ≤ k → k + 1 < (ns.take 26).length → P m₁ bs₁ → Fr h₀ L s₁.heap (fun y => if y = "k" then some (.int k t) else m₁ y) → Blk h₀ L s₁.heap (x :: bs₁) →
      wpAny (model lawProg w) ((aTop dp un gd (some [])).deeper (envOfC "law" scope L a cd)) (execs (theFor body) (envOfC "law" scope L a cd))
        (fun f s' => f = .next ∧ ∃ (h' : Heap) (tk' : Nat) (m' : Str → Option Value) (bs' : List (List (Addr × Obj))), s' = { s₁ with heap := h', toks := tk' } ∧ Fr h₀ L h' m' ∧ Blk h₀ L h' (x :: bs') ∧ P m' bs') (fun _ _ => False) s₁) :
    wpAny (model lawProg w) ((aTop dp un gd (some [])).deeper (envOfC "law" scope L a cd)) (execs ((body.drop 7).take 1) (envOfC "law" scope L a cd))
      (fun f s' => Done (f = .next ∧ ∃ (h' : Heap) (tk' : Nat) (m' : Str → Option Value) (bs' : List (List (Addr × Obj))), s' = { s with heap := h', toks := tk' } ∧ Fr h₀ L h' m' ∧ Blk h₀ L h' bs' ∧ P m' bs')) (fun _ _ => False) s := by
  have pt0 : Part 0 := .mk
  have pt1 : Part 1 := .mk
  obtain ⟨bd, hbd⟩ : ∃ bd, bd = theFor body := ⟨_, rfl⟩
  rw [← hbd] at turn
  obtain ⟨rfl, rfl⟩ := hb.same (by k_is)
  simp only [theFor] at hbd
  simp only [List.take, List.drop]
  rw [← hbd]
  clear hbd
  w_on
  clear hb
  have N : News h₀ L s.heap bs.flatten := B.1
  refine wpAny_execs_cons ?_
  with_unfolding_all refine For_invVF F ?k1 ?k2 ?_ (hE := PassesOwn.never)
  case k1 => exact rfl
  case k2 => exact rfl
  k_steps
  unfold Hold
  (with_reducible rename IsRange _ _ _ _ _ _ _ _ => R1)
  (with_reducible rename Fr _ _ _ _ => F1)
  (with_reducible rename News _ _ _ _ => N1)
  (with_reducible rename List.length (List.take _ _) = _ => hC)
  obtain ⟨hsm, n, hn, hlt⟩ := range2_of R1 (by omega) (by omega)
  k_dflt (refine' iter_rangeJ (n := n) (fun i m₁ news₁ => ∃ bs₁ : List (List (Addr × Obj)), news₁ = bs₁.flatten ∧ bs₁.Pairwise Apart ∧ P m₁ bs₁) ?hh ?hr ?hs ?hn ?F ?N ?h0 ?turn ?done; (case hh => exact rfl); (case hr => exact R1); (case hs => exact hsm); (case hn => exact hn); (case F => exact F1); (case N => exact news_drop N1); (case h0 => exact ⟨bs, rfl, B.2, hP⟩))
  case turn =>
    intro i I m₁ news₁ t1 h1 tk1 hi hJ hI' F₁ N₁
    obtain ⟨bs₁, rfl, hpw, hP₁⟩ := hJ
    have hki := hlt i hi
    generalize krsIt (2 + ((i + 1 : Nat) : Int) * 2) ((n : Int) - ((i + 1 : Nat) : Int)) 2 = it at N₁ ⊢
    have B₁ : Blk h₀ L h1 ([(I, it)] :: bs₁) := ⟨N₁, List.pairwise_cons.mpr ⟨fun c hc => apart_ofNe fun z hz q hq => by
      rw [List.mem_singleton.mp hz]
      exact (hI' q (List.mem_flatten.mpr ⟨c, hc, hq⟩)).symm, hpw⟩⟩
    refine wpAny_mono (@turn _ m₁ (2 + (i : Int) * 2) t1 bs₁ [(I, it)] (by omega) (by omega) hP₁ F₁ B₁) ?_ fun _ _ e => e
    rintro f s' ⟨rfl, h2, tk2, m2, bs2, rfl, F2, B2, P2⟩
    exact ⟨h2, tk2, m2, bs2.flatten, rfl, F2, B2.1, fun z hz e => B2.apartAll z.1 (List.mem_map_of_mem hz) (by rw [e]; exact .head _), bs2, rfl, B2.tail.2, P2⟩
  case done =>
    intro m₁ news₁ h1 tk1 hJ F₁ N₁
    obtain ⟨bs₁, rfl, hpw, hP₁⟩ := hJ
    exact wpAny_execs_nil ⟨rfl, h1, tk1, m₁, bs₁, rfl, F₁, ⟨N₁, hpw⟩, hP₁⟩
end
end
section
section
variable {w : World} {body : List Stmt} {scope : Scope} {h₀ : Heap} {L a : Addr} {cd : Value} {m : Str → Option Value} {mean : ExcName → Option Value} {mg mb : Str → Option Value} {s : Shared} {dp un : Nat} {gd : Option (List Code)} {oo : Obj} {od a1 : Nat} {ovs : List Value} {ks : List Int} {occ : Nat} {kvs : List (Int × Value)} {o1 : List (Addr × Obj)} {pre post : List (List (Addr × Obj))}
set_option maxHeartbeats 1000000 in
theorem law_order (hb : IsLaw w body scope) (F : Fr h₀ L s.heap m) (X : (hd.heap_39 w.params).In h₀) (T : Top hd.view_39 lawLoose mean mg mb h₀) (B : Blk h₀ L s.heap ([(od, PySem.W.listOf ovs.toArray occ)] :: (pre ++ o1 :: post)))
    (hmo : m "order" = some (.ref od)) (hmr : m "recent" = some (.ref a1)) (hO : IntsAre ovs ks) (c1 : Cch w a1 1044 kvs o1) (hz : kvs.length < 64) (hp : (kvs.map (·.1)).Perm ks) (hdp : dp ≤ 500) (hun : un ≤ 4000) :
    wpAny (model lawProg w) ((aTop dp un gd (some [])).deeper (envOfC "law" scope L a cd)) (execs ((body.drop 8).take 1) (envOfC "law" scope L a cd))
      (fun f s' => Done (f = .next ∧ ∃ (h' : Heap) (tk' : Nat), s' = { s with heap := h', toks := tk' } ∧ Fr h₀ L h' m ∧ Blk h₀ L h' ([(od, PySem.W.listOf ovs.toArray occ)] :: (pre ++ o1 :: post)))) (fun _ _ => False) s := by
  have pt0 : Part 0 := .mk
  have pt1 : Part 1 := .mk
  have pt3 : Part 3 := .mk
  have pt6 : Part 6 := .mk
  obtain ⟨rfl, rfl⟩ := hb.same (by k_is)
  simp only [List.take, List.drop]
  w_on
  clear hb
  have N : News h₀ L s.heap ((od, PySem.W.listOf ovs.toArray occ) :: (pre ++ o1 :: post).flatten) := B.1
  k_steps
  unfold Hold
  k_dflt (refine' blk_sorted (pre := [(od, PySem.W.listOf ovs.toArray occ)] :: pre) c1 (.inl rfl) ?F ?X ?B ?T ?hD ?hU hz ?_; (case F => k_asm); (case X => k_asm); (case B => exact B); (case T => k_asm); (case hD => walk_at "mine room"); (case hU => walk_at "mine room"))
  intro D1 vs1 ns1 cc1 h1 tk1 F1 B1 i1 p1 s1
  try dsimp only
  clear N F
  have N : News h₀ L h1 ((D1, PySem.W.listOf vs1.toArray cc1) :: (od, PySem.W.listOf ovs.toArray occ) :: (pre ++ o1 :: post).flatten) := B1.1
  k_steps
  unfold Hold
  have hlen : ks.length < 64 := by have := hp.length_eq; rw [List.length_map] at this; omega
  k_dflt (refine' kso_sorted ?F ?N (News.isList (by exact N) (List.Mem.tail _ (List.Mem.head _))) hO hlen ?_; (case F => k_asm); (case N => exact N))
  intro D2 vs2 ns2 cc2 h2 F2 N2 l2 i2 e2 p2 s2 _
  try dsimp only
  clear N F1
  have L2 := News.isList N2 (List.Mem.head _)
  have L1 := News.isList N2 (List.Mem.tail _ (List.Mem.head _))
  have B2 : Blk h₀ L h2 ([(od, PySem.W.listOf ovs.toArray occ)] :: (pre ++ o1 :: post)) := B1.tail.keepFrom (news_drop (news_drop N2))
  obtain rfl := sorted_same (p1.trans (hp.trans p2.symm)) s1 s2
  try k_sweep
  k_steps
  unfold Hold
  k_dflt (refine' ke_ne_ints L1 L2 i1 i2 ?hu ?_; (case hu => ((try dsimp only [aTop, Around.in1, Around.deeper]); unfold cLine; omega)))
  simp only [decide_true, Bool.not_true]
  k_steps
  exact ⟨rfl, _, _, rfl, by k_asm, B2⟩
end
end
section
section
variable {w : World} {body : List Stmt} {scope : Scope} {h₀ : Heap} {L a : Addr} {cd : Value} {m : Str → Option Value} {mean : ExcName → Option Value} {mg mb : Str → Option Value} {s : Shared} {dp un : Nat} {gd : Option (List Code)} {i : Int} {t : Tok} {k0 : Int} {v0 y : Value} {od a1 a2 n : Nat} {ovs : List Value} {ks : List Int} {ow1 ow2 : List (Addr × Obj)} {pre post : List (List (Addr × Obj))} {P1 P2 : List (Addr × Obj) → Prop}
set_option maxHeartbeats 1000000 in
theorem seg_pop0 (hb : IsLaw w body scope) (F : Fr h₀ L s.heap m) (X : (hd.heap_39 w.params).In h₀) (T : Top hd.view_39 lawLoose mean mg mb h₀) (B : Blk h₀ L s.heap ([(od, PySem.W.listOf (y :: ovs).toArray n)] :: (pre ++ ow1 :: ow2 :: post)))
    (hm1 : m "one" = some (.ref a1)) (hm2 : m "other" = some (.ref a2)) (hmw : m "which" = some (.int i t)) (hi : i = 0) (hmo : m "order" = some (.ref od)) (hO : IntsAre (y :: ovs) (k0 :: ks)) (hol : ovs.length ≤ 60) (hdp : dp ≤ 500) (hun : un ≤ 4000) (iv : IsI v0) (I1 : CInst a1 1044 ow1) (I2 : CInst a2 1044 ow2)
    (S1 : Does w 550 4700 1027 [.ref a1] ow1 (fun r o => ∃ T tk o2, r = .ref T ∧ o = Popped T k0 tk v0 :: o2 ∧ P1 o2)) (S2 : Does w 550 4700 1027 [.ref a2] ow2 (fun r o => ∃ T tk o2, r = .ref T ∧ o = Popped T k0 tk v0 :: o2 ∧ P2 o2)) :
    wpAny (model lawProg w) ((aTop dp un gd (some [])).deeper (envOfC "law" scope L a cd)) (execs (theWhile (theFor (body.drop 9))) (envOfC "law" scope L a cd))
      (fun f s' => Done (f = .next ∧ ∃ (h' : Heap) (tk' : Nat) (ow1' ow2' : List (Addr × Obj)) (m' : Str → Option Value), s' = { s with heap := h', toks := tk' } ∧ Fr h₀ L h' m' ∧ (∀ y : Str, y ≠ "gone" → m' y = m y) ∧ Blk h₀ L h' ([(od, PySem.W.listOf ovs.toArray (n + 1))] :: (pre ++ ow1' :: ow2' :: post)) ∧ P1 ow1' ∧ P2 ow2')) (fun _ _ => False) s := by
  have pt0 : Part 0 := .mk
  have pt2 : Part 2 := .mk
  have pt6 : Part 6 := .mk
  have pt8 : Part 8 := .mk
  obtain ⟨ty, rfl, hO2⟩ : ∃ ty, y = .int k0 ty ∧ IntsAre ovs ks := by cases hO; exact ⟨_, rfl, by assumption⟩
  clear hO
  obtain ⟨rfl, rfl⟩ := hb.same (by k_is)
  simp only [theWhile, theFor, List.drop]
  w_on
  clear hb
  have N : News h₀ L s.heap ((od, PySem.W.listOf (Value.int k0 ty :: ovs).toArray n) :: (pre ++ ow1 :: ow2 :: post).flatten) := B.1
  k_steps
  unfold Hold
  k_dflt (refine' cmethod ?F ?X I1 ?N (.inr rfl) ?g ?f ?t ?_; (case F => k_asm); (case X => k_asm); (case N => exact Blk.mem (pre := ([(od, PySem.W.listOf (Value.int k0 ty :: ovs).toArray n)] :: pre)) B); (case g => k_is); (case f => k_is); (case t => k_is); k_whole)
  k_steps
  k_dflt (refine' blk_use (pre := ([(od, PySem.W.listOf (Value.int k0 ty :: ovs).toArray n)] :: pre)) S1 ?F ?X ?B ?T ?hD ?hU ?_; (case F => k_asm); (case X => k_asm); (case B => exact B); (case T => k_asm); (case hD => walk_at "mine room"); (case hU => walk_at "mine room"))
  intro r1 ow1' h1 tk1 F1 B1 P1'
  obtain ⟨T1, u1, q1, rfl, rfl, hP1⟩ := P1'
  try dsimp only
  clear N F
  have N : News h₀ L h1 ((T1, { cls := .type "tuple", data := .seq #[.int k0 u1, v0] }) :: (od, PySem.W.listOf (Value.int k0 ty :: ovs).toArray n) :: (pre ++ (Popped T1 k0 u1 v0 :: q1) :: ow2 :: post).flatten) := news_sub B1.1 (fun z hz => (List.mem_cons.mp hz).elim (fun e => e ▸ mem_mid (List.Mem.head _)) (fun h => h))
  k_steps
  unfold Hold
  (with_reducible rename News _ _ _ _ => N2)
  have B2 : Blk h₀ L _ (([(od, PySem.W.listOf (Value.int k0 ty :: ovs).toArray n)] :: pre) ++ (Popped T1 k0 u1 v0 :: q1) :: ow2 :: post) := Blk.keepFrom B1 (news_drop N2)
  k_dflt (refine' cmethod ?F ?X I2 ?N (.inr rfl) ?g ?f ?t ?_; (case F => k_asm); (case X => k_asm); (case N => exact Blk.mem (Blk.nxt B2)); (case g => k_is); (case f => k_is); (case t => k_is); k_whole)
  k_steps
  k_dflt (refine' blk_use (pre := ([(od, PySem.W.listOf (Value.int k0 ty :: ovs).toArray n)] :: pre) ++ [Popped T1 k0 u1 v0 :: q1]) S2 ?F ?X ?B ?T ?hD ?hU ?_; (case F => k_asm); (case X => k_asm); (case B => exact Blk.nxt B2); (case T => k_asm); (case hD => walk_at "mine room"); (case hU => walk_at "mine room"))
  intro r2 ow2' h2 tk2 F2 B3 P2'
  obtain ⟨T2, u2, q2, rfl, rfl, hP2⟩ := P2'
  have B4 : Blk h₀ L h2 (([(od, PySem.W.listOf (Value.int k0 ty :: ovs).toArray n)] :: pre) ++ (Popped T1 k0 u1 v0 :: q1) :: (Popped T2 k0 u2 v0 :: q2) :: post) := Blk.prv B3
  try dsimp only
  clear N2
  k_sweep
  have n1 : h2.get? T1 = some { cls := .type "tuple", data := .seq #[.int k0 u1, v0] } := (B4.1 _ (mem_mid (List.Mem.head _))).1
  have n2 : h2.get? T2 = some { cls := .type "tuple", data := .seq #[.int k0 u2, v0] } := (B3.1 _ (mem_mid (List.Mem.head _))).1
  have N : News h₀ L h2 ((T1, { cls := .type "tuple", data := .seq #[.int k0 u1, v0] }) :: (od, PySem.W.listOf (Value.int k0 ty :: ovs).toArray n) :: (pre ++ (Popped T1 k0 u1 v0 :: q1) :: (Popped T2 k0 u2 v0 :: q2) :: post).flatten) := news_sub B4.1 (fun z hz => (List.mem_cons.mp hz).elim (fun e => e ▸ mem_mid (List.Mem.head _)) (fun h => h))
  k_steps
  unfold Hold
  k_dflt (refine' ne_popped iv n1 n2 ?hu ?_; (case hu => ((try dsimp only [aTop, Around.in1, Around.deeper]); unfold cLine; omega)))
  k_steps
  unfold Hold
  k_dflt (refine' kl_method N (List.Mem.tail _ (List.Mem.head _)) PySem.F.slot_list_pop PySem.F.type_list_pop ?_)
  k_steps
  unfold Hold
  k_dflt (refine' blk_pop0 ?F ?B ?z ?_; (case F => k_asm); (case B => exact B4); (case z => exact hol))
  intro h3 F3 B5
  try dsimp only
  clear N n1 n2
  have N : News h₀ L h3 ((od, PySem.W.listOf ovs.toArray (n + 1)) :: (pre ++ (Popped T1 k0 u1 v0 :: q1) :: (Popped T2 k0 u2 v0 :: q2) :: post).flatten) := B5.1
  k_steps
  (with_reducible rename Fr _ _ _ _ => F9)
  refine ⟨rfl, _, _, q1, q2, _, rfl, F9, fun y hy => if_neg hy, ?_, hP1, hP2⟩
  exact Blk.sub (pre := [(od, PySem.W.listOf ovs.toArray (n + 1))] :: pre) (b := Popped T1 k0 u1 v0 :: q1) (post := q2 :: post) (Blk.prv (Blk.sub (pre := ([(od, PySem.W.listOf ovs.toArray (n + 1))] :: pre) ++ [Popped T1 k0 u1 v0 :: q1]) (b' := q2) (Blk.nxt (pre := [(od, PySem.W.listOf ovs.toArray (n + 1))] :: pre) B5) (fun z hz => .tail _ hz))) (fun z hz => .tail _ hz)
end
end
section
section
variable {w : World} {body : List Stmt} {scope : Scope} {h₀ : Heap} {L a : Addr} {cd : Value} {m : Str → Option Value} {mean : ExcName → Option Value} {mg mb : Str → Option Value} {s : Shared} {dp un : Nat} {gd : Option (List Code)} {i : Int} {t : Tok} {k0 : Int} {v0 y : Value} {od a1 a2 n : Nat} {ovs : List Value} {ks : List Int} {ow1 ow2 : List (Addr × Obj)} {pre post : List (List (Addr × Obj))} {P1 P2 : List (Addr × Obj) → Prop}
set_option maxHeartbeats 1000000 in
theorem seg_pop1 (hb : IsLaw w body scope) (F : Fr h₀ L s.heap m) (X : (hd.heap_39 w.params).In h₀) (T : Top hd.view_39 lawLoose mean mg mb h₀) (B : Blk h₀ L s.heap (pre ++ ow1 :: ow2 :: post))
    (hm1 : m "one" = some (.ref a1)) (hm2 : m "other" = some (.ref a2)) (hmw : m "which" = some (.int i t)) (hi : i ≠ 0) (hdp : dp ≤ 500) (hun : un ≤ 4000) (iv : IsI v0) (I1 : CInst a1 979 ow1) (I2 : CInst a2 979 ow2)
    (S1 : Does w 550 4700 962 [.ref a1] ow1 (fun r o => ∃ T tk o2, r = .ref T ∧ o = Popped T k0 tk v0 :: o2 ∧ P1 o2)) (S2 : Does w 550 4700 962 [.ref a2] ow2 (fun r o => ∃ T tk o2, r = .ref T ∧ o = Popped T k0 tk v0 :: o2 ∧ P2 o2)) :
    wpAny (model lawProg w) ((aTop dp un gd (some [])).deeper (envOfC "law" scope L a cd)) (execs (theWhile (theFor (body.drop 9))) (envOfC "law" scope L a cd))
      (fun f s' => Done (f = .next ∧ ∃ (h' : Heap) (tk' : Nat) (ow1' ow2' : List (Addr × Obj)) (m' : Str → Option Value), s' = { s with heap := h', toks := tk' } ∧ Fr h₀ L h' m' ∧ (∀ y : Str, y ≠ "gone" → m' y = m y) ∧ Blk h₀ L h' (pre ++ ow1' :: ow2' :: post) ∧ P1 ow1' ∧ P2 ow2')) (fun _ _ => False) s := by
  have pt0 : Part 0 := .mk
  have pt2 : Part 2 := .mk
  have pt6 : Part 6 := .mk
  have pt8 : Part 8 := .mk
  obtain ⟨rfl, rfl⟩ := hb.same (by k_is)
  simp only [theWhile, theFor, List.drop]
  w_on
  clear hb
  have N : News h₀ L s.heap (pre ++ ow1 :: ow2 :: post).flatten := B.1
  k_steps
  unfold Hold
  k_dflt (refine' cmethod ?F ?X I1 ?N (.inr rfl) ?g ?f ?t ?_; (case F => k_asm); (case X => k_asm); (case N => exact Blk.mem (pre := pre) B); (case g => k_is); (case f => k_is); (case t => k_is); k_whole)
  k_steps
  k_dflt (refine' blk_use (pre := pre) S1 ?F ?X ?B ?T ?hD ?hU ?_; (case F => k_asm); (case X => k_asm); (case B => exact B); (case T => k_asm); (case hD => walk_at "mine room"); (case hU => walk_at "mine room"))
  intro r1 ow1' h1 tk1 F1 B1 P1'
  obtain ⟨T1, u1, q1, rfl, rfl, hP1⟩ := P1'
  try dsimp only
  clear N F
  have N : News h₀ L h1 ((T1, { cls := .type "tuple", data := .seq #[.int k0 u1, v0] }) :: (pre ++ (Popped T1 k0 u1 v0 :: q1) :: ow2 :: post).flatten) := news_sub B1.1 (fun z hz => (List.mem_cons.mp hz).elim (fun e => e ▸ mem_mid (List.Mem.head _)) (fun h => h))
  k_steps
  unfold Hold
  (with_reducible rename News _ _ _ _ => N2)
  have B2 : Blk h₀ L _ (pre ++ (Popped T1 k0 u1 v0 :: q1) :: ow2 :: post) := Blk.keepFrom B1 (news_drop N2)
  k_dflt (refine' cmethod ?F ?X I2 ?N (.inr rfl) ?g ?f ?t ?_; (case F => k_asm); (case X => k_asm); (case N => exact Blk.mem (Blk.nxt B2)); (case g => k_is); (case f => k_is); (case t => k_is); k_whole)
  k_steps
  k_dflt (refine' blk_use (pre := pre ++ [Popped T1 k0 u1 v0 :: q1]) S2 ?F ?X ?B ?T ?hD ?hU ?_; (case F => k_asm); (case X => k_asm); (case B => exact Blk.nxt B2); (case T => k_asm); (case hD => walk_at "mine room"); (case hU => walk_at "mine room"))
  intro r2 ow2' h2 tk2 F2 B3 P2'
  obtain ⟨T2, u2, q2, rfl, rfl, hP2⟩ := P2'
  have B4 : Blk h₀ L h2 (pre ++ (Popped T1 k0 u1 v0 :: q1) :: (Popped T2 k0 u2 v0 :: q2) :: post) := Blk.prv B3
  try dsimp only
  clear N2
  k_sweep
  have n1 : h2.get? T1 = some { cls := .type "tuple", data := .seq #[.int k0 u1, v0] } := (B4.1 _ (mem_mid (List.Mem.head _))).1
  have n2 : h2.get? T2 = some { cls := .type "tuple", data := .seq #[.int k0 u2, v0] } := (B3.1 _ (mem_mid (List.Mem.head _))).1
  have N : News h₀ L h2 ((T1, { cls := .type "tuple", data := .seq #[.int k0 u1, v0] }) :: (pre ++ (Popped T1 k0 u1 v0 :: q1) :: (Popped T2 k0 u2 v0 :: q2) :: post).flatten) := news_sub B4.1 (fun z hz => (List.mem_cons.mp hz).elim (fun e => e ▸ mem_mid (List.Mem.head _)) (fun h => h))
  k_steps
  unfold Hold
  k_dflt (refine' ne_popped iv n1 n2 ?hu ?_; (case hu => ((try dsimp only [aTop, Around.in1, Around.deeper]); unfold cLine; omega)))
  k_steps
  (with_reducible rename Fr _ _ _ _ => F9)
  refine ⟨rfl, _, _, q1, q2, _, rfl, F9, fun y hy => if_neg hy, ?_, hP1, hP2⟩
  exact Blk.sub (b := Popped T1 k0 u1 v0 :: q1) (post := q2 :: post) (Blk.prv (Blk.sub (pre := pre ++ [Popped T1 k0 u1 v0 :: q1]) (b' := q2) B3 (fun z hz => .tail _ hz))) (fun z hz => .tail _ hz)
end
end
section
section
variable {w : World} {body : List Stmt} {scope : Scope} {h₀ : Heap} {L a : Addr} {cd : Value} {m : Str → Option Value} {mean : ExcName → Option Value} {mg mb : Str → Option Value} {s : Shared} {dp un : Nat} {gd : Option (List Code)} {i : Int} {t : Tok} {k0 : Int} {v0 y : Value} {od a1 a2 n : Nat} {ovs : List Value} {ks : List Int} {ow1 ow2 : List (Addr × Obj)} {pre post : List (List (Addr × Obj))} {P1 P2 : List (Addr × Obj) → Prop}
set_option maxHeartbeats 1000000 in
theorem seg_pop2 (hb : IsLaw w body scope) (F : Fr h₀ L s.heap m) (X : (hd.heap_39 w.params).In h₀) (T : Top hd.view_39 lawLoose mean mg mb h₀) (B : Blk h₀ L s.heap (pre ++ ow1 :: ow2 :: post))
    (hm1 : m "one" = some (.ref a1)) (hm2 : m "other" = some (.ref a2)) (hmw : m "which" = some (.int i t)) (hi : i ≠ 0) (hdp : dp ≤ 500) (hun : un ≤ 4000) (iv : IsI v0) (I1 : CInst a1 882 ow1) (I2 : CInst a2 882 ow2)
    (S1 : Does w 550 4700 872 [.ref a1] ow1 (fun r o => ∃ T tk o2, r = .ref T ∧ o = Popped T k0 tk v0 :: o2 ∧ P1 o2)) (S2 : Does w 550 4700 872 [.ref a2] ow2 (fun r o => ∃ T tk o2, r = .ref T ∧ o = Popped T k0 tk v0 :: o2 ∧ P2 o2)) :
    wpAny (model lawProg w) ((aTop dp un gd (some [])).deeper (envOfC "law" scope L a cd)) (execs (theWhile (theFor (body.drop 9))) (envOfC "law" scope L a cd))
      (fun f s' => Done (f = .next ∧ ∃ (h' : Heap) (tk' : Nat) (ow1' ow2' : List (Addr × Obj)) (m' : Str → Option Value), s' = { s with heap := h', toks := tk' } ∧ Fr h₀ L h' m' ∧ (∀ y : Str, y ≠ "gone" → m' y = m y) ∧ Blk h₀ L h' (pre ++ ow1' :: ow2' :: post) ∧ P1 ow1' ∧ P2 ow2')) (fun _ _ => False) s := by
  have pt0 : Part 0 := .mk
  have pt2 : Part 2 := .mk
  have pt6 : Part 6 := .mk
  have pt8 : Part 8 := .mk
  obtain ⟨rfl, rfl⟩ := hb.same (by k_is)
  simp only [theWhile, theFor, List.drop]
  w_on
  clear hb
  have N : News h₀ L s.heap (pre ++ ow1 :: ow2 :: post).flatten := B.1
  k_steps
  unfold Hold
  k_dflt (refine' cmethod ?F ?X I1 ?N (.inr rfl) ?g ?f ?t ?_; (case F => k_asm); (case X => k_asm); (case N => exact Blk.mem (pre := pre) B); (case g => k_is); (case f => k_is); (case t => k_is); k_whole)
  k_steps
  k_dflt (refine' blk_use (pre := pre) S1 ?F ?X ?B ?T ?hD ?hU ?_; (case F => k_asm); (case X => k_asm); (case B => exact B); (case T => k_asm); (case hD => walk_at "mine room"); (case hU => walk_at "mine room"))
  intro r1 ow1' h1 tk1 F1 B1 P1'
  obtain ⟨T1, u1, q1, rfl, rfl, hP1⟩ := P1'
  try dsimp only
  clear N F
  have N : News h₀ L h1 ((T1, { cls := .type "tuple", data := .seq #[.int k0 u1, v0] }) :: (pre ++ (Popped T1 k0 u1 v0 :: q1) :: ow2 :: post).flatten) := news_sub B1.1 (fun z hz => (List.mem_cons.mp hz).elim (fun e => e ▸ mem_mid (List.Mem.head _)) (fun h => h))
  k_steps
  unfold Hold
  (with_reducible rename News _ _ _ _ => N2)
  have B2 : Blk h₀ L _ (pre ++ (Popped T1 k0 u1 v0 :: q1) :: ow2 :: post) := Blk.keepFrom B1 (news_drop N2)
  k_dflt (refine' cmethod ?F ?X I2 ?N (.inr rfl) ?g ?f ?t ?_; (case F => k_asm); (case X => k_asm); (case N => exact Blk.mem (Blk.nxt B2)); (case g => k_is); (case f => k_is); (case t => k_is); k_whole)
  k_steps
  k_dflt (refine' blk_use (pre := pre ++ [Popped T1 k0 u1 v0 :: q1]) S2 ?F ?X ?B ?T ?hD ?hU ?_; (case F => k_asm); (case X => k_asm); (case B => exact Blk.nxt B2); (case T => k_asm); (case hD => walk_at "mine room"); (case hU => walk_at "mine room"))
  intro r2 ow2' h2 tk2 F2 B3 P2'
  obtain ⟨T2, u2, q2, rfl, rfl, hP2⟩ := P2'
  have B4 : Blk h₀ L h2 (pre ++ (Popped T1 k0 u1 v0 :: q1) :: (Popped T2 k0 u2 v0 :: q2) :: post) := Blk.prv B3
  try dsimp only
  clear N2
  k_sweep
  have n1 : h2.get? T1 = some { cls := .type "tuple", data := .seq #[.int k0 u1, v0] } := (B4.1 _ (mem_mid (List.Mem.head _))).1
  have n2 : h2.get? T2 = some { cls := .type "tuple", data := .seq #[.int k0 u2, v0] } := (B3.1 _ (mem_mid (List.Mem.head _))).1
  have N : News h₀ L h2 ((T1, { cls := .type "tuple", data := .seq #[.int k0 u1, v0] }) :: (pre ++ (Popped T1 k0 u1 v0 :: q1) :: (Popped T2 k0 u2 v0 :: q2) :: post).flatten) := news_sub B4.1 (fun z hz => (List.mem_cons.mp hz).elim (fun e => e ▸ mem_mid (List.Mem.head _)) (fun h => h))
  k_steps
  unfold Hold
  k_dflt (refine' ne_popped iv n1 n2 ?hu ?_; (case hu => ((try dsimp only [aTop, Around.in1, Around.deeper]); unfold cLine; omega)))
  k_steps
  (with_reducible rename Fr _ _ _ _ => F9)
  refine ⟨rfl, _, _, q1, q2, _, rfl, F9, fun y hy => if_neg hy, ?_, hP1, hP2⟩
  exact Blk.sub (b := Popped T1 k0 u1 v0 :: q1) (post := q2 :: post) (Blk.prv (Blk.sub (pre := pre ++ [Popped T1 k0 u1 v0 :: q1]) (b' := q2) B3 (fun z hz => .tail _ hz))) (fun z hz => .tail _ hz)
end
end
section
section
variable {w : World} {body : List Stmt} {scope : Scope} {h₀ : Heap} {L a : Addr} {cd : Value} {m : Str → Option Value} {mean : ExcName → Option Value} {mg mb : Str → Option Value} {s : Shared} {dp un : Nat} {gd : Option (List Code)} {a1 a2 C n : Nat} {bs : List (List (Addr × Obj))} {P : Nat → List (List (Addr × Obj)) → Prop}
set_option maxHeartbeats 1000000 in
theorem seg_empty (hb : IsLaw w body scope) (F : Fr h₀ L s.heap m) (X : (hd.heap_39 w.params).In h₀) (T : Top hd.view_39 lawLoose mean mg mb h₀) (B : Blk h₀ L s.heap bs) (hm1 : m "one" = some (.ref a1)) (hm2 : m "other" = some (.ref a2)) (hdp : dp ≤ 500) (hun : un ≤ 4000) (hC : C = 1044 ∨ C = 979 ∨ C = 882) (hP : P n bs)
    (len1 : ∀ n bs, P n bs → ∃ pre post kvs own, bs = pre ++ own :: post ∧ Cch w a1 C kvs own ∧ kvs.length = n ∧ kvs.length < 64) (len2 : ∀ n bs, P n bs → ∃ pre post kvs own, bs = pre ++ own :: post ∧ Cch w a2 C kvs own ∧ kvs.length = n ∧ kvs.length < 64)
    (step : ∀ (n : Nat) (s₁ : Shared) (m₁ : Str → Option Value) (bs₁ : List (List (Addr × Obj))), P (n + 1) bs₁ → (∀ y : Str, y ≠ "gone" → m₁ y = m y) → Fr h₀ L s₁.heap m₁ → Blk h₀ L s₁.heap bs₁ →
      wpAny (model lawProg w) ((aTop dp un gd (some [])).deeper (envOfC "law" scope L a cd)) (execs (theWhile (theFor (body.drop 9))) (envOfC "law" scope L a cd))
        (fun f s' => f = .next ∧ ∃ (h' : Heap) (tk' : Nat) (m' : Str → Option Value) (bs' : List (List (Addr × Obj))), s' = { s₁ with heap := h', toks := tk' } ∧ Fr h₀ L h' m' ∧ (∀ y : Str, y ≠ "gone" → m' y = m₁ y) ∧ Blk h₀ L h' bs' ∧ P n bs') (fun _ _ => False) s₁) :
    wpAny (model lawProg w) ((aTop dp un gd (some [])).deeper (envOfC "law" scope L a cd)) (execs (theFor (body.drop 9)) (envOfC "law" scope L a cd))
      (fun f s' => Done (f = .next ∧ ∃ (h' : Heap) (tk' : Nat) (m' : Str → Option Value) (bs' : List (List (Addr × Obj))), s' = { s with heap := h', toks := tk' } ∧ Fr h₀ L h' m' ∧ (∀ y : Str, y ≠ "gone" → m' y = m y) ∧ Blk h₀ L h' bs' ∧ P 0 bs')) (fun _ _ => False) s := by
  have pt0 : Part 0 := .mk
  have pt4 : Part 4 := .mk
  obtain ⟨bd, hbd⟩ : ∃ bd, bd = theWhile (theFor (body.drop 9)) := ⟨_, rfl⟩
  rw [← hbd] at step
  obtain ⟨rfl, rfl⟩ := hb.same (by k_is)
  simp only [theWhile, theFor, List.drop] at hbd
  simp only [theFor, List.drop]
  rw [← hbd]
  clear hbd
  w_on
  clear hb
  refine wpAny_execs_cons ?_
  refine while_J PassesOwn.never (fun n s₁ => ∃ m₁ bs₁, (∃ h tk, s₁ = { s with heap := h, toks := tk }) ∧ Fr h₀ L s₁.heap m₁ ∧ (∀ y : Str, y ≠ "gone" → m₁ y = m y) ∧ Blk h₀ L s₁.heap bs₁ ∧ P n bs₁) ?_ (n := n) ⟨m, bs, ⟨_, _, rfl⟩, F, fun _ _ => rfl, B, hP⟩
  clear F B hP
  rintro n s₁ ⟨m₁, bs₁, ⟨h1, tk1, rfl⟩, F, hm, B, hP⟩
  have e1 : m₁ "one" = some (.ref a1) := (hm _ (by decide)).trans hm1
  have e2 : m₁ "other" = some (.ref a2) := (hm _ (by decide)).trans hm2
  have N : News h₀ L h1 bs₁.flatten := B.1
  obtain ⟨pre, post, kvs, own, hbs, Cc, hln, hz⟩ := len1 n bs₁ hP
  k_steps
  unfold Hold
  k_dflt (refine' blk_len (pre := pre) (post := post) Cc hC ?F ?X ?B ?T ?hD ?hU hz ?_; (case F => k_asm); (case X => k_asm); (case B => exact hbs ▸ B); (case T => k_asm); (case hD => walk_at "mine room"); (case hU => walk_at "mine room"))
  intro h2 tk2 tl2 F2 B2
  try dsimp only
  clear N F
  rw [← hbs] at B2
  have N : News h₀ L h2 bs₁.flatten := B2.1
  cases n with
  | zero =>
    obtain ⟨pre2, post2, kvs2, own2, hbs2, Cc2, hln2, hz2⟩ := len2 0 bs₁ hP
    k_steps
    unfold Hold
    k_dflt (refine' blk_len (pre := pre2) (post := post2) Cc2 hC ?F ?X ?B ?T ?hD ?hU hz2 ?_; (case F => k_asm); (case X => k_asm); (case B => exact hbs2 ▸ B2); (case T => k_asm); (case hD => walk_at "mine room"); (case hU => walk_at "mine room"))
    intro h3 tk3 tl3 F3 B3
    try dsimp only
    clear N F2
    rw [← hbs2] at B3
    have N : News h₀ L h3 bs₁.flatten := B3.1
    k_steps
    exact ⟨rfl, _, _, m₁, bs₁, rfl, by k_asm, hm, B3, hP⟩
  | succ n =>
    k_steps
    refine wpAny_mono (@step n _ m₁ bs₁ hP hm F2 B2) ?_ fun _ _ e => e
    rintro f s' ⟨rfl, h3, tk3, m2, bs2, rfl, F3, g3, B3, P3⟩
    exact ⟨n, Nat.lt_succ_self _, m2, bs2, ⟨_, _, rfl⟩, F3, fun y hy => (g3 y hy).trans (hm y hy), B3, P3⟩
end
end
section
section
variable {w : World} {body : List Stmt} {scope : Scope} {h₀ : Heap} {L a : Addr} {cd : Value} {m : Str → Option Value} {mean : ExcName → Option Value} {mg mb : Str → Option Value} {s : Shared} {dp un : Nat} {gd : Option (List Code)} {rest : List (Addr × Obj)} {a1 a2 T' Ti : Nat} {i : Int} {t : Tok} {K : Shared → Prop}
set_option maxHeartbeats 1000000 in
theorem assign_which (hb : IsLaw w body scope) (F : Fr h₀ L s.heap m) (X : (hd.heap_39 w.params).In h₀) (T : Top hd.view_39 lawLoose mean mg mb h₀) (N : News h₀ L s.heap ((Ti, { cls := .type "tuple", data := .seq #[.ref a1, .ref a2] }) :: rest)) (hT : IsTup s.heap T' #[.int i t, .ref Ti])
    (h : ∀ h' tk', Fr h₀ L h' (fun y => if y = "other" then some (.ref a2) else if y = "one" then some (.ref a1) else if y = "which" then some (.int i t) else m y) → News h₀ L h' ((Ti, { cls := .type "tuple", data := .seq #[.ref a1, .ref a2] }) :: rest) → K { s with heap := h', toks := tk' }) :
    wpAny (model lawProg w) ((aTop dp un gd (some [])).deeper (envOfC "law" scope L a cd)) (assign (forTarget (body.drop 9)) (envOfC "law" scope L a cd) (.ref T')) (fun _ s₂ => K s₂) (fun _ _ => False) s := by
  have pt0 : Part 0 := .mk
  have pt9 : Part 9 := .mk
  obtain ⟨rfl, rfl⟩ := hb.same (by k_is)
  simp only [forTarget, List.drop]
  w_on
  clear hb
  k_steps
  exact h _ _ (by k_asm) (by k_asm)
end
def Mut2 : List Str := ["which", "one", "other", "gone"]
section
variable {w : World} {body : List Stmt} {scope : Scope} {h₀ : Heap} {L a : Addr} {cd : Value} {m : Str → Option Value} {mean : ExcName → Option Value} {mg mb : Str → Option Value} {s : Shared} {dp un : Nat} {gd : Option (List Code)} {cl : Addr × Obj} {bs : List (List (Addr × Obj))} {a1 a2 a3 a4 a5 a6 : Nat} {Q0 Q1 Q2 Q3 : List (List (Addr × Obj)) → Prop}
set_option maxHeartbeats 1000000 in
theorem law_last (hb : IsLaw w body scope) (F : Fr h₀ L s.heap m) (X : (hd.heap_39 w.params).In h₀) (T : Top hd.view_39 lawLoose mean mg mb h₀) (B : Blk h₀ L s.heap ([cl] :: bs)) (hQ : Q0 ([cl] :: bs))
    (hm1 : m "recent" = some (.ref a1)) (hm2 : m "recents" = some (.ref a2)) (hm3 : m "count" = some (.ref a3)) (hm4 : m "counts" = some (.ref a4)) (hm5 : m "first" = some (.ref a5)) (hm6 : m "firsts" = some (.ref a6))
    (turn0 : ∀ (s₁ : Shared) (m₁ : Str → Option Value) (t : Tok) (bs₁ : List (List (Addr × Obj))) (x TB : List (Addr × Obj)), Q0 bs₁ → (∀ y : Str, y ∉ Mut2 → m₁ y = m y) → Fr h₀ L s₁.heap (fun y => if y = "other" then some (.ref a2) else if y = "one" then some (.ref a1) else if y = "which" then some (.int 0 t) else m₁ y) → Blk h₀ L s₁.heap (x :: TB :: bs₁) →
      wpAny (model lawProg w) ((aTop dp un gd (some [])).deeper (envOfC "law" scope L a cd)) (execs (theFor (body.drop 9)) (envOfC "law" scope L a cd))
        (fun f s' => f = .next ∧ ∃ (h' : Heap) (tk' : Nat) (m' : Str → Option Value) (bs' : List (List (Addr × Obj))), s' = { s₁ with heap := h', toks := tk' } ∧ Fr h₀ L h' m' ∧ (∀ y : Str, y ∉ Mut2 → m' y = m y) ∧ Blk h₀ L h' (x :: TB :: bs') ∧ Q1 bs') (fun _ _ => False) s₁)
    (turn1 : ∀ (s₁ : Shared) (m₁ : Str → Option Value) (t : Tok) (bs₁ : List (List (Addr × Obj))) (x TB : List (Addr × Obj)), Q1 bs₁ → (∀ y : Str, y ∉ Mut2 → m₁ y = m y) → Fr h₀ L s₁.heap (fun y => if y = "other" then some (.ref a4) else if y = "one" then some (.ref a3) else if y = "which" then some (.int 1 t) else m₁ y) → Blk h₀ L s₁.heap (x :: TB :: bs₁) →
      wpAny (model lawProg w) ((aTop dp un gd (some [])).deeper (envOfC "law" scope L a cd)) (execs (theFor (body.drop 9)) (envOfC "law" scope L a cd))
        (fun f s' => f = .next ∧ ∃ (h' : Heap) (tk' : Nat) (m' : Str → Option Value) (bs' : List (List (Addr × Obj))), s' = { s₁ with heap := h', toks := tk' } ∧ Fr h₀ L h' m' ∧ (∀ y : Str, y ∉ Mut2 → m' y = m y) ∧ Blk h₀ L h' (x :: TB :: bs') ∧ Q2 bs') (fun _ _ => False) s₁)
    (turn2 : ∀ (s₁ : Shared) (m₁ : Str → Option Value) (t : Tok) (bs₁ : List (List (Addr × Obj))) (x TB : List (Addr × Obj)), Q2 bs₁ → (∀ y : Str, y ∉ Mut2 → m₁ y = m y) → Fr h₀ L s₁.heap (fun y => if y = "other" then some (.ref a6) else if y = "one" then some (.ref a5) else if y = "which" then some (.int 2 t) else m₁ y) → Blk h₀ L s₁.heap (x :: TB :: bs₁) →
      wpAny (model lawProg w) ((aTop dp un gd (some [])).deeper (envOfC "law" scope L a cd)) (execs (theFor (body.drop 9)) (envOfC "law" scope L a cd))
        (fun f s' => f = .next ∧ ∃ (h' : Heap) (tk' : Nat) (m' : Str → Option Value) (bs' : List (List (Addr × Obj))), s' = { s₁ with heap := h', toks := tk' } ∧ Fr h₀ L h' m' ∧ (∀ y : Str, y ∉ Mut2 → m' y = m y) ∧ Blk h₀ L h' (x :: TB :: bs') ∧ Q3 bs') (fun _ _ => False) s₁) :
    wpAny (model lawProg w) ((aTop dp un gd (some [])).deeper (envOfC "law" scope L a cd)) (execs (body.drop 9) (envOfC "law" scope L a cd))
      (fun f s' => Done (f = .ret (.bool true) ∧ ∃ (h' : Heap) (tk' : Nat) (m' : Str → Option Value) (bs' : List (List (Addr × Obj))), s' = { s with heap := h', toks := tk' } ∧ Fr h₀ L h' m' ∧ Blk h₀ L h' bs' ∧ Q3 bs')) (fun _ _ => False) s := by
  have pt0 : Part 0 := .mk
  have pt9 : Part 9 := .mk
  have assign : ∀ (s₁ : Shared) (m₁ : Str → Option Value) (T' Ti a1 a2 : Nat) (i : Int) (t : Tok) (bs₁ : List (List (Addr × Obj))) (K : Shared → Prop), Fr h₀ L s₁.heap m₁ → Blk h₀ L s₁.heap bs₁ → (Ti, tup2 a1 a2) ∈ bs₁.flatten → IsTup s₁.heap T' #[.int i t, .ref Ti] →
      (∀ h' tk', Fr h₀ L h' (fun y => if y = "other" then some (.ref a2) else if y = "one" then some (.ref a1) else if y = "which" then some (.int i t) else m₁ y) → Blk h₀ L h' bs₁ → K { s₁ with heap := h', toks := tk' }) →
      wpAny (model lawProg w) ((aTop dp un gd (some [])).deeper (envOfC "law" scope L a cd)) (assign (forTarget (body.drop 9)) (envOfC "law" scope L a cd) (.ref T')) (fun _ s₂ => K s₂) (fun _ _ => False) s₁ := by
    intro s₁ m₁ T' Ti a1 a2 i t bs₁ K F₁ B₁ hTi hT hK
    refine assign_which (rest := bs₁.flatten) hb F₁ X T (news_sub B₁.1 (fun z hz => (List.mem_cons.mp hz).elim (fun e => e ▸ hTi) id)) hT fun h' tk' F' N' => hK h' tk' F' (B₁.keepFrom (news_drop N'))
  obtain ⟨bd, hbd⟩ : ∃ bd, bd = theFor (body.drop 9) := ⟨_, rfl⟩
  rw [← hbd] at turn0 turn1 turn2
  obtain ⟨rfl, rfl⟩ := hb.same (by k_is)
  simp only [theFor, List.drop] at hbd
  simp only [forTarget, List.drop] at assign
  simp only [List.drop]
  rw [← hbd]
  clear hbd
  w_on
  clear hb
  have N : News h₀ L s.heap (cl :: bs.flatten) := B.1
  refine wpAny_execs_cons ?_
  with_unfolding_all refine For_turns F ?_ (hE := PassesOwn.never)
  k_steps
  unfold Hold
  (with_reducible rename _ < _ ∧ AllLt _ _ => q1)
  (with_reducible rename _ < _ ∧ _ < _ ∧ AllLt _ _ => q2)
  (with_reducible rename _ < _ ∧ _ < _ ∧ _ < _ ∧ AllLt _ _ => q3)
  (with_reducible rename _ < _ ∧ _ < _ ∧ _ < _ ∧ _ < _ ∧ AllLt _ _ => q4)
  (with_reducible rename Fr _ _ _ _ => F1)
  (with_reducible rename News _ _ _ _ => N1)
  obtain ⟨TB, B1, t4, t3, t2, t1⟩ := four_blkE B N1 q1 q2 q3 q4
  clear N1 q1 q2 q3 q4
  k_dflt (refine' enum_turns rfl F1 B1.1 (List.mem_append_left _ t4) rfl rfl rfl ?_)
  intro I hI
  have hI' := fun p hp => (⟨Nat.ne_of_lt (hI p hp), Nat.ne_of_lt (Nat.lt_succ_of_lt (hI p hp))⟩ : p.1 ≠ I ∧ p.1 ≠ I + 1)
  k_dflt (refine' items_stepE (fun m' bs' => ∃ bs₁, bs' = TB :: bs₁ ∧ Q1 bs₁ ∧ ∀ y : Str, y ∉ Mut2 → m' y = m y) (fun T' t its hh tkk hT FF BB => ?_) (fun m1 bs1 g1 pw1 off1 => ?_) B1.2 hI')
  · refine assign _ _ T' _ a1 a2 0 t _ _ FF BB (List.mem_append_right _ (List.mem_append_left _ t1)) hT fun h' tk' F' B' => ?_
    refine wpAny_mono (@turn0 _ m t _ its TB hQ (fun _ _ => rfl) F' B') ?_ fun _ _ e => e
    rintro f s' ⟨rfl, h2, tk2, m2, bs2, rfl, F2, g2, B2, q2⟩
    exact ⟨rfl, h2, tk2, m2, TB :: bs2, rfl, F2, ⟨bs2, rfl, q2, g2⟩, B2⟩
  obtain ⟨c1, rfl, r1, e1⟩ := g1
  refine ⟨⟨List.mem_append_left _ t4, trivial⟩, ?_⟩
  k_dflt (refine' items_stepE (fun m' bs' => ∃ bs₁, bs' = TB :: bs₁ ∧ Q2 bs₁ ∧ ∀ y : Str, y ∉ Mut2 → m' y = m y) (fun T' t its hh tkk hT FF BB => ?_) (fun m2 bs2 g2 pw2 off2 => ?_) pw1 off1)
  · refine assign _ _ T' _ a3 a4 1 t _ _ FF BB (List.mem_append_right _ (List.mem_append_left _ t2)) hT fun h' tk' F' B' => ?_
    refine wpAny_mono (@turn1 _ m1 t _ its TB r1 e1 F' B') ?_ fun _ _ e => e
    rintro f s' ⟨rfl, h2, tk2, m2, bs2, rfl, F2, g2, B2, q2⟩
    exact ⟨rfl, h2, tk2, m2, TB :: bs2, rfl, F2, ⟨bs2, rfl, q2, g2⟩, B2⟩
  obtain ⟨c2, rfl, r2, e2⟩ := g2
  refine ⟨⟨List.mem_append_left _ t4, trivial⟩, ?_⟩
  k_dflt (refine' items_stepE (fun m' bs' => ∃ bs₁, bs' = TB :: bs₁ ∧ Q3 bs₁ ∧ ∀ y : Str, y ∉ Mut2 → m' y = m y) (fun T' t its hh tkk hT FF BB => ?_) (fun m3 bs3 g3 pw3 off3 => ?_) pw2 off2)
  · refine assign _ _ T' _ a5 a6 2 t _ _ FF BB (List.mem_append_right _ (List.mem_append_left _ t3)) hT fun h' tk' F' B' => ?_
    refine wpAny_mono (@turn2 _ m2 t _ its TB r2 e2 F' B') ?_ fun _ _ e => e
    rintro f s' ⟨rfl, h2, tk2, m2, bs2, rfl, F2, g2, B2, q2⟩
    exact ⟨rfl, h2, tk2, m2, TB :: bs2, rfl, F2, ⟨bs2, rfl, q2, g2⟩, B2⟩
  obtain ⟨c3, rfl, r3, e3⟩ := g3
  refine ⟨⟨List.mem_append_left _ t4, trivial⟩, ?_⟩
  refine ItemsRest.zero fun h tk F N => ?_
  have B3 : Blk h₀ L h (TB :: c3) := ⟨N, pw3⟩
  clear assign
  k_steps
  exact ⟨rfl, _, _, m3, c3, rfl, F, B3.tail, r3⟩
end
end
section
def Ints (kvs : List (Int × Value)) : Prop := ∀ q ∈ kvs, IsI q.2
theorem valueAt_val {kvs : List (Int × Value)} {k : Int} {v : Value} (h : valueAt kvs k = some v) : ∃ q ∈ kvs, q.2 = v := by
  unfold valueAt at h
  cases e : kvs.find? (fun kv => kv.1 = k) with
  | none => rw [e] at h; cases h
  | some q => rw [e] at h; exact ⟨q, List.mem_of_find?_eq_some e, Option.some.inj h⟩
theorem ints_at {kvs : List (Int × Value)} {k : Int} {v : Value} (hi : Ints kvs) (h : valueAt kvs k = some v) : IsI v := by
  obtain ⟨q, hq, rfl⟩ := valueAt_val h
  exact hi q hq
theorem ints_stored {kvs : List (Int × Value)} {k : Int} {v : Value} (hi : Ints kvs) (hv : IsI v) : Ints (stored kvs k v) := by
  intro q hq
  unfold stored at hq
  split at hq
  · obtain ⟨x, hx, rfl⟩ := List.mem_map.mp hq
    split
    · exact hv
    · exact hi x hx
  · rcases List.mem_append.mp hq with h | h
    · exact hi q h
    · rw [List.mem_singleton.mp h]; exact hv
theorem ints_without {kvs : List (Int × Value)} {k : Int} (hi : Ints kvs) : Ints (without kvs k) := fun q hq => hi q (List.mem_filter.mp hq).1
section
variable {mx kind key : Int} {v : Value} {fr : Option Int} {kvs : List (Int × Value)}
theorem ints_next (hi : Ints kvs) (hv : IsI v) : Ints (dataNext mx kind key v fr kvs) := by
  unfold dataNext
  split
  · split
    · exact ints_stored hi hv
    · split
      · exact ints_stored (ints_without hi) hv
      · exact ints_stored hi hv
  · split
    · exact hi
    · split
      · exact ints_without hi
      · split
        · exact ints_without hi
        · exact hi
theorem has_next (hk : kind = 0) : (valueAt (dataNext mx kind key v fr kvs) key).isSome = true := by
  unfold dataNext
  rw [if_pos hk]
  split
  · rw [valueAt_stored]; rfl
  · split
    · rw [valueAt_stored]; rfl
    · rw [valueAt_stored]; rfl
theorem told_ok (hi : Ints kvs) : ToldOk (told kind key kvs fr) := by
  unfold told
  split
  · trivial
  · split
    · cases e : valueAt kvs key with
      | none => trivial
      | some v => exact ints_at hi e
    · split
      · trivial
      · split
        · rename_i e; exact ints_at hi e
        · trivial
theorem len_next (h1 : 1 ≤ mx) (hl : (kvs.length : Int) ≤ mx) (nd : (kvs.map (·.1)).Nodup) (hf : ∀ k0, fr = some k0 → (valueAt kvs k0).isSome = true) (hn : fr = none → kvs.length = 0) : ((dataNext mx kind key v fr kvs).length : Int) ≤ mx := by
  unfold dataNext
  split
  · by_cases hk : (valueAt kvs key).isSome = true
    · rw [if_pos (.inl hk), len_stored_old hk]; exact hl
    · have hk' := isF hk
      by_cases hlt : (kvs.length : Int) < mx
      · rw [if_pos (.inr hlt), len_stored_new hk']; omega
      · rw [if_neg (by rintro (q | q); exact hk q; exact hlt q)]
        cases fr with
        | none => show ((stored kvs key v).length : Int) ≤ mx; rw [len_stored_new hk', hn rfl]; exact h1
        | some k0 =>
          show ((stored (without kvs k0) key v).length : Int) ≤ mx
          rw [len_stored_new (valueAt_without_none hk')]
          have := len_without_nodup nd (valueAt_mem.mp (hf k0 rfl))
          omega
  · split
    · exact hl
    · split
      · have := without_len_le kvs key; omega
      · split
        · rename_i k0; have := without_len_le kvs k0; omega
        · exact hl
end
theorem filter_bne {key : Int} {ks : List Int} : ks.filter (· != key) = ks.filter (· ≠ key) := List.filter_congr fun x _ => by by_cases h : x = key <;> simp [h]
section
variable {p key : Int} {ks : List Int}
theorem lastN_id (h : (ks.length : Int) ≤ p) : lastN p ks = ks := by
  unfold lastN
  rw [show ks.length - p.toNat = 0 by omega]
  rfl
theorem len_filter (nd : ks.Nodup) (hm : key ∈ ks) : (ks.filter (· ≠ key)).length + 1 = ks.length := by
  have := (perm_filter_add nd hm).length_eq
  rw [List.length_append, List.length_singleton] at this
  exact this
theorem order0 (h1 : 1 ≤ p) (hl : (ks.length : Int) ≤ p) (nd : ks.Nodup) : lastN p (ks.filter (· != key) ++ [key]) = lruNext p 0 key ks := by
  rw [filter_bne]
  unfold lruNext
  rw [if_pos rfl]
  by_cases hm : key ∈ ks
  · rw [if_pos hm]
    have := len_filter nd hm
    exact lastN_id (by rw [List.length_append, List.length_singleton]; omega)
  · rw [if_neg hm, filter_ne_self hm]
    by_cases hlt : (ks.length : Int) < p
    · rw [if_pos hlt]
      exact lastN_id (by rw [List.length_append, List.length_singleton]; omega)
    · rw [if_neg hlt]
      cases ks with
      | nil => simp only [List.length_nil] at hlt; omega
      | cons k0 ks =>
        unfold lastN
        rw [List.length_append, List.length_singleton, show (k0 :: ks).length + 1 - p.toNat = 1 by omega]
        rfl
theorem order1i (hl : (ks.length : Int) ≤ p) (nd : ks.Nodup) (hm : key ∈ ks) : lastN p (ks.filter (· != key) ++ [key]) = lruNext p 1 key ks := by
  rw [filter_bne]
  unfold lruNext
  rw [if_neg (by decide), if_pos rfl, if_pos hm]
  have := len_filter nd hm
  exact lastN_id (by rw [List.length_append, List.length_singleton]; omega)
theorem order1o (hl : (ks.length : Int) ≤ p) (hm : key ∉ ks) : lastN p ks = lruNext p 1 key ks := by
  unfold lruNext
  rw [if_neg (by decide), if_pos rfl, if_neg hm]
  exact lastN_id hl
theorem order2 (hl : (ks.length : Int) ≤ p) : lastN p (ks.filter (· != key)) = lruNext p 2 key ks := by
  rw [filter_bne]
  unfold lruNext
  rw [if_neg (by decide), if_neg (by decide), if_pos rfl]
  have := List.length_filter_le (· ≠ key) ks
  exact lastN_id (by omega)
theorem order3 (hl : (ks.length : Int) ≤ p) : lastN p (ks.drop 1) = lruNext p 3 key ks := by
  unfold lruNext
  rw [if_neg (by decide), if_neg (by decide), if_neg (by decide), ← List.drop_one]
  exact lastN_id (by rw [List.length_drop]; omega)
theorem lru_last {l : List Int} (hm : key ∉ l) : lruNext p 1 key (l ++ [key]) = l ++ [key] := by
  unfold lruNext
  rw [if_neg (by decide), if_pos rfl, if_pos (by simp), List.filter_append, filter_ne_self hm]
  simp
theorem lru_still {kind : Int} (nd : ks.Nodup) (hk : kind = 0 ∨ kind = 1) : lruNext p 1 key (lruNext p kind key ks) = lruNext p kind key ks := by
  have hf : key ∉ ks.filter (· ≠ key) := by simp
  rcases hk with rfl | rfl
  · by_cases hm : key ∈ ks
    · rw [show lruNext p 0 key ks = ks.filter (· ≠ key) ++ [key] by unfold lruNext; rw [if_pos rfl, if_pos hm]]
      exact lru_last hf
    · by_cases hlt : (ks.length : Int) < p
      · rw [show lruNext p 0 key ks = ks ++ [key] by unfold lruNext; rw [if_pos rfl, if_neg hm, if_pos hlt]]
        exact lru_last hm
      · rw [show lruNext p 0 key ks = ks.tail ++ [key] by unfold lruNext; rw [if_pos rfl, if_neg hm, if_neg hlt]]
        exact lru_last fun q => hm (List.mem_of_mem_tail q)
  · by_cases hm : key ∈ ks
    · rw [show lruNext p 1 key ks = ks.filter (· ≠ key) ++ [key] by unfold lruNext; rw [if_neg (by decide), if_pos rfl, if_pos hm]]
      exact lru_last hf
    · rw [show lruNext p 1 key ks = ks by unfold lruNext; rw [if_neg (by decide), if_pos rfl, if_neg hm]]
      unfold lruNext
      rw [if_neg (by decide), if_pos rfl, if_neg hm]
end
theorem touches_snoc {k : Int} : ∀ (n : Nat) (t : Sh), tch k (touches k n t) = touches k (n + 1) t
  | 0, _ => rfl
  | n + 1, t => by rw [touches, touches_snoc n]; rfl
theorem ov3 {m : Str → Option Value} {x1 x2 x3 : Str} {v1 v2 v3 : Value} (h1 : m x1 = some v1) (h2 : m x2 = some v2) (h3 : m x3 = some v3) : (fun y => if y = x1 then some v1 else if y = x2 then some v2 else if y = x3 then some v3 else m y) = m := by
  funext y
  by_cases e1 : y = x1
  · subst e1; simp [h1]
  · by_cases e2 : y = x2
    · subst e2; simp [e1, h2]
    · by_cases e3 : y = x3
      · subst e3; simp [e1, e2, h3]
      · simp [e1, e2, e3]
end
section
theorem execs_step {M : Model} {A : Around} {E : Value → Shared → Prop} {env : Env} {Q R : Flow → Shared → Prop} {l : List Stmt} {s : Shared} (i n j : Nat) (hj : i + n = j) (h : wpAny M A (execs ((l.drop i).take n) env) R E s)
    (h2 : ∀ f s', R f s' → f = .next ∧ wpAny M A (execs (l.drop j) env) Q E s') : wpAny M A (execs (l.drop i) env) Q E s := by
  refine execs_cut n (wpAny_mono h (fun f s' hr => ?_) fun _ _ e => e)
  obtain ⟨rfl, hx⟩ := h2 f s' hr
  rw [List.drop_drop, hj]
  exact hx
theorem cell_ne {h₀ h : Heap} {L x : Nat} {o : Obj} {bs : List (List (Addr × Obj))} (B : Blk h₀ L h ([(x, o)] :: bs)) : ∀ p ∈ bs.flatten, p.1 ≠ x := fun p hp e => B.apartAll.at p hp (by rw [e]; exact .head _)
section
variable {w : World} {body : List Stmt} {scope : Scope} {h₀ : Heap} {L a : Addr} {cd : Value} {m : Str → Option Value} {mean : ExcName → Option Value} {mg mb : Str → Option Value} {s : Shared} {dp un : Nat} {gd : Option (List Code)} {R : List (List (Addr × Obj))} {oc : Obj} {od : Nat} {vs : List Value} {ks : List Int} {kind key p : Int} {t tk tp : Tok} {c : Nat}
theorem order_blk {h h' : Heap} {D : Nat} {oo : Obj} {x : Obj} (B : Blk h₀ L h ([(L + 1, oc)] :: [(od, oo)] :: R)) (N : News h₀ L h' ((D, x) :: (L + 1, oc) :: R.flatten)) (q : AllLt D R.flatten) (q1 : L + 1 < D) : Blk h₀ L h' ([(L + 1, oc)] :: [(D, x)] :: R) := by
  have B1 : Blk h₀ L h ([(L + 1, oc)] :: R) := B.drop (pre := [[(L + 1, oc)]])
  have B2 : Blk h₀ L h' ([(D, x)] :: [(L + 1, oc)] :: R) := B1.cons N (apart_ofNe fun p hp z hz => by
    rw [List.mem_singleton.mp hp]
    rcases List.mem_cons.mp (show z ∈ (L + 1, oc) :: R.flatten from hz) with rfl | hz
    · exact (Nat.ne_of_lt q1).symm
    · exact (Nat.ne_of_lt (allLt_all q z hz)).symm)
  exact B2.perm (List.Perm.swap _ _ _)
theorem seg_order (hb : IsLaw w body scope) (F : Fr h₀ L s.heap m) (X : (hd.heap_39 w.params).In h₀) (T : Top hd.view_39 lawLoose mean mg mb h₀) (B : Blk h₀ L s.heap ([(L + 1, oc)] :: [(od, PySem.W.listOf vs.toArray c)] :: R)) (ho : oc.data = .cell (some (.int key tk))) (hI : IntsAre vs ks)
    (hmo : m "order" = some (.ref od)) (hmk : m "kind" = some (.int kind t)) (hmp : m "places" = some (.int p tp)) (hkind : kind = 0 ∨ kind = 1 ∨ kind = 2 ∨ kind = 3) (hp : 1 ≤ p) (hp2 : p ≤ 4) (nd : ks.Nodup) (hl : (ks.length : Int) ≤ p) :
    wpAny (model lawProg w) ((aTop dp un gd (some [])).deeper (envOfC "law" scope L a cd)) (execs (((theFor body).drop 2).take 2) (envOfC "law" scope L a cd))
      (fun f s' => f = .next ∧ ∃ (h' : Heap) (tk' : Nat) (D : Nat) (vs' : List Value) (c' : Nat) (m' : Str → Option Value), s' = { s with heap := h', toks := tk' } ∧ Fr h₀ L h' m' ∧ m' "order" = some (.ref D) ∧ (∀ y : Str, y ≠ "order" → m' y = m y) ∧ Blk h₀ L h' ([(L + 1, oc)] :: [(D, PySem.W.listOf vs'.toArray c')] :: R) ∧ IntsAre vs' (lruNext p kind key ks)) (fun _ _ => False) s := by
  have e3 := ov3 hmo hmk hmp
  have F' : Fr h₀ L s.heap (fun y => if y = "order" then some (.ref od) else if y = "kind" then some (.int kind t) else if y = "places" then some (.int p tp) else m y) := by rw [e3]; exact F
  have hap : @Ne Nat (L + 1) od := fun e => cell_ne B _ (.head _) e.symm
  have hz : ks.length ≤ 8 := by omega
  have fin : ∀ {l : List Int}, l = lruNext p kind key ks → ∀ (f : Flow) (s' : Shared), Done (f = .next ∧ ∃ (h' : Heap) (tk' : Nat) (D : Nat) (vs' : List Value) (c' : Nat) (m' : Str → Option Value), s' = { s with heap := h', toks := tk' } ∧ Fr h₀ L h' m' ∧ m' "order" = some (.ref D) ∧ (∀ y : Str, y ≠ "order" → m' y = (fun y : Str => if y = "order" then some (Value.ref od) else if y = "kind" then some (.int kind t) else if y = "places" then some (.int p tp) else m y) y) ∧ News h₀ L h' ((D, PySem.W.listOf vs'.toArray c') :: (L + 1, oc) :: R.flatten) ∧ AllLt D R.flatten ∧ L + 1 < D ∧ IntsAre vs' l) →
      f = .next ∧ ∃ (h' : Heap) (tk' : Nat) (D : Nat) (vs' : List Value) (c' : Nat) (m' : Str → Option Value), s' = { s with heap := h', toks := tk' } ∧ Fr h₀ L h' m' ∧ m' "order" = some (.ref D) ∧ (∀ y : Str, y ≠ "order" → m' y = m y) ∧ Blk h₀ L h' ([(L + 1, oc)] :: [(D, PySem.W.listOf vs'.toArray c')] :: R) ∧ IntsAre vs' (lruNext p kind key ks) := by
    rintro l rfl f s' ⟨rfl, h', tk', D, vs', c', m', rfl, F1, g1, g2, N1, q1, q2, I1⟩
    exact ⟨rfl, h', tk', D, vs', c', m', rfl, F1, g1, fun y hy => (g2 y hy).trans (congrFun e3 y), order_blk B N1 q1 q2, I1⟩
  have N : News h₀ L s.heap ((L + 1, oc) :: (od, PySem.W.listOf vs.toArray c) :: R.flatten) := B.1
  rcases hkind with rfl | rfl | rfl | rfl
  · exact wpAny_mono (turn_order0 hb F' X T N ho hI hap hp (by omega) hz) (fin (order0 hp hl nd)) fun _ _ e => e
  · by_cases hm : key ∈ ks
    · exact wpAny_mono (turn_order1i hb F' X T N ho hI hap hp (by omega) hz (by rw [List.any_eq_true]; exact ⟨key, hm, by simp⟩)) (fin (order1i hl nd hm)) fun _ _ e => e
    · exact wpAny_mono (turn_order1o hb F' X T N ho hI hap hp (by omega) hz (by rw [List.any_eq_false]; intro x hx e; exact hm (by rw [← (beq_iff_eq.mp e)]; exact hx))) (fin (order1o hl hm)) fun _ _ e => e
  · exact wpAny_mono (turn_order2 hb F' X T N ho hI hap hp (by omega) hz) (fin (order2 hl)) fun _ _ e => e
  · exact wpAny_mono (turn_order3 hb F' X T N ho hI hap hp (by omega) hz) (fin (order3 hl)) fun _ _ e => e
end
end
section
structure Six where
  a1 : Nat
  a2 : Nat
  a3 : Nat
  a4 : Nat
  a5 : Nat
  a6 : Nat
/-- what the caches hold -/
structure PS where
  kL : List (Int × Value)
  ks : List Int
  kC : List (Int × Value)
  sh : Sh
  kF : List (Int × Value)
  fs : List Int
def PS.next (S : PS) (p kind key : Int) (v : Value) : PS :=
  { kL := dataNext p kind key v S.ks.head? S.kL, ks := lruNext p kind key S.ks, kC := dataNext p kind key v (keysOf S.sh).head? S.kC, sh := lfuNext p kind key S.kC.length S.sh, kF := dataNext p kind key v S.fs.head? S.kF, fs := fifoNext p kind key S.fs }
structure Pure (p : Int) (S : PS) : Prop where
  z1 : (S.kL.length : Int) ≤ p
  z2 : (S.kC.length : Int) ≤ p
  z3 : (S.kF.length : Int) ≤ p
  i1 : Ints S.kL
  i2 : Ints S.kC
  i3 : Ints S.kF
  rise : Rise S.sh
structure Mid (w : World) (p o : Int) (A : Six) (S : PS) (o1 o2 o3 o4 o5 o6 : List (Addr × Obj)) : Prop where
  c1 : OrdS w 1044 "_LRUCache__order" A.a1 p S.kL S.ks o1
  c2 : OrdS w 1044 "_LRUCache__order" A.a2 p S.kL S.ks o2
  c3 : Lfu w A.a3 p S.kC S.sh o3
  c4 : Lfu w A.a4 p S.kC (scale o S.sh) o4
  c5 : OrdS w 882 "_FIFOCache__order" A.a5 p S.kF S.fs o5
  c6 : OrdS w 882 "_FIFOCache__order" A.a6 p S.kF S.fs o6
structure Nm (m : Str → Option Value) (nm : Addr) (p o : Int) (A : Six) : Prop where
  numbers : m "numbers" = some (.ref nm)
  places : ∃ t, m "places" = some (.int p t)
  often : ∃ t, m "often" = some (.int o t)
  r1 : m "recent" = some (.ref A.a1)
  r2 : m "recents" = some (.ref A.a2)
  r3 : m "count" = some (.ref A.a3)
  r4 : m "counts" = some (.ref A.a4)
  r5 : m "first" = some (.ref A.a5)
  r6 : m "firsts" = some (.ref A.a6)
def Mut : List Str := ["k", "kind", "order", "told", "again", "one", "other"]
theorem Nm.to {m m' : Str → Option Value} {nm : Addr} {p o : Int} {A : Six} (h : Nm m nm p o A) (e : ∀ y : Str, y ∉ Mut → m' y = m y) : Nm m' nm p o A where
  numbers := (e _ (by decide)).trans h.numbers
  places := let ⟨t, ht⟩ := h.places; ⟨t, (e _ (by decide)).trans ht⟩
  often := let ⟨t, ht⟩ := h.often; ⟨t, (e _ (by decide)).trans ht⟩
  r1 := (e _ (by decide)).trans h.r1
  r2 := (e _ (by decide)).trans h.r2
  r3 := (e _ (by decide)).trans h.r3
  r4 := (e _ (by decide)).trans h.r4
  r5 := (e _ (by decide)).trans h.r5
  r6 := (e _ (by decide)).trans h.r6
theorem kind_is (n : Nat) : [0, 0, 0, 0, 1, 1, 1, 1, 2, 3].getD n (0 : Int) = 0 ∨ [0, 0, 0, 0, 1, 1, 1, 1, 2, 3].getD n (0 : Int) = 1 ∨ [0, 0, 0, 0, 1, 1, 1, 1, 2, 3].getD n (0 : Int) = 2 ∨ [0, 0, 0, 0, 1, 1, 1, 1, 2, 3].getD n (0 : Int) = 3 := by
  match n with
  | 0 | 1 | 2 | 3 | 4 | 5 | 6 | 7 | 8 | 9 => decide
  | n + 10 => exact .inl (by simp)
section
variable {w : World} {a : Nat} {p : Int} {kvs : List (Int × Value)} {ks : List Int} {sh : Sh} {own : List (Addr × Obj)} {C : Addr} {on : Str}
theorem ordS_front (I : OrdS w C on a p kvs ks own) : (∀ k0, ks.head? = some k0 → (valueAt kvs k0).isSome = true) ∧ (ks.head? = none → kvs.length = 0) ∧ (kvs.map (·.1)).Nodup ∧ ks.Nodup ∧ ks.length = kvs.length := by
  obtain ⟨da, dd, od, O, q⟩ := I
  obtain ⟨nd1, nd2⟩ := ord_nodup O
  have hl := len_of_perm q
  refine ⟨fun k0 h => (mem_of_perm q).mpr ?_, fun h => ?_, nd1, nd2, hl⟩
  · cases ks with
    | nil => cases h
    | cons x l => rw [show x = k0 from Option.some.inj h]; exact .head _
  · cases ks with
    | nil => simpa using hl.symm
    | cons x l => cases h
theorem lfu_front (I : Lfu w a p kvs sh own) : (∀ k0, (keysOf sh).head? = some k0 → (valueAt kvs k0).isSome = true) ∧ ((keysOf sh).head? = none → kvs.length = 0) ∧ (kvs.map (·.1)).Nodup ∧ WF sh ∧ (kvs.map (·.1)).Perm (keysOf sh) := by
  obtain ⟨da, dd, ld, r, lk, ch, J, rfl, O⟩ := I
  refine ⟨fun k0 h => O.mem.mpr ?_, fun h => ?_, (List.Perm.nodup_iff O.kks).mpr O.wf.nd, O.wf, O.kks⟩
  · cases e : keysOf (shape ch) with
    | nil => rw [e] at h; cases h
    | cons x l => rw [e] at h; rw [show x = k0 from Option.some.inj h]; exact .head _
  · have := O.kks.length_eq
    cases e : keysOf (shape ch) with
    | nil => rw [e] at this; simpa using this
    | cons x l => rw [e] at h; cases h
end
theorem Mid.pure {w : World} {p o : Int} {A : Six} {S : PS} {o1 o2 o3 o4 o5 o6 : List (Addr × Obj)} (M : Mid w p o A S o1 o2 o3 o4 o5 o6) (P : Pure p S) (h1 : 1 ≤ p) (kind key : Int) {v : Value} (hv : IsI v) : Pure p (S.next p kind key v) := by
  obtain ⟨f1, f2, f3, -, -⟩ := ordS_front M.c1
  obtain ⟨g1, g2, g3, g4, -⟩ := lfu_front M.c3
  obtain ⟨e1, e2, e3, -, -⟩ := ordS_front M.c5
  exact ⟨len_next h1 P.z1 f3 f1 f2, len_next h1 P.z2 g3 g1 g2, len_next h1 P.z3 e3 e1 e2, ints_next P.i1 hv, ints_next P.i2 hv, ints_next P.i3 hv, lfu_rise g4 P.rise⟩
theorem range_fit {o : Int} (h2 : 2 ≤ o) (h4 : o ≤ 4) : (Builtin.Range.small 0 o 1 = true ∧ Builtin.Range.rangeSize 0 o 1 = (o.toNat : Int)) ∧ (Builtin.Range.small 0 (o - 1) 1 = true ∧ Builtin.Range.rangeSize 0 (o - 1) 1 = ((o.toNat - 1 : Nat) : Int)) := by
  have : o = 2 ∨ o = 3 ∨ o = 4 := by omega
  rcases this with rfl | rfl | rfl <;> decide
end
section
def readsN (p key : Int) : Nat → List Int → List Int
  | 0, ks => ks
  | n + 1, ks => lruNext p 1 key (readsN p key n ks)
theorem readsN_same {p key : Int} {ks : List Int} (h : lruNext p 1 key ks = ks) : ∀ n, readsN p key n ks = ks
  | 0 => rfl
  | n + 1 => by rw [readsN, readsN_same h n, h]
section
variable {w : World} {body : List Stmt} {scope : Scope} {h₀ : Heap} {L a : Addr} {cd : Value} {m : Str → Option Value} {mean : ExcName → Option Value} {mg mb : Str → Option Value} {s : Shared} {dp un : Nat} {gd : Option (List Code)} {post : List (List (Addr × Obj))} {oc : Obj} {oco : Option Value} {od nm : Nat} {ovs nvs : List Value} {ns : List Int} {k p o : Int} {t : Tok} {occ nc : Nat} {A : Six} {S : PS} {o1 o2 o3 o4 o5 o6 : List (Addr × Obj)}
set_option maxHeartbeats 1000000 in
theorem the_turn (hb : IsLaw w body scope) (F : Fr h₀ L s.heap m) (X : (hd.heap_39 w.params).In h₀) (T : Top hd.view_39 lawLoose mean mg mb h₀) (B : Blk h₀ L s.heap ([(L + 1, oc)] :: [(od, PySem.W.listOf ovs.toArray occ)] :: [(nm, PySem.W.listOf nvs.toArray nc)] :: o1 :: o2 :: o3 :: o4 :: o5 :: o6 :: post)) (hoc : oc.data = .cell oco)
    (hN : IntsAre nvs ns) (hO : IntsAre ovs S.ks) (hm : Nm m nm p o A) (hmo : m "order" = some (.ref od)) (hmk : m "k" = some (.int k t)) (hk : 2 ≤ k) (hk2 : k + 1 < ns.length) (hz : ns.length ≤ 63)
    (M : Mid w p o A S o1 o2 o3 o4 o5 o6) (P : Pure p S) (hp : 1 ≤ p) (hp4 : p ≤ 4) (ho2 : 2 ≤ o) (ho4 : o ≤ 4) (hdp : dp ≤ 500) (hun : un ≤ 4000) :
    wpAny (model lawProg w) ((aTop dp un gd (some [])).deeper (envOfC "law" scope L a cd)) (execs (theFor body) (envOfC "law" scope L a cd))
      (fun f s' => f = .next ∧ ∃ (h' : Heap) (tk' : Nat) (m' : Str → Option Value) (oc' : Obj) (oco' : Option Value) (od' : Nat) (ovs' : List Value) (occ' : Nat) (S' : PS) (o1' o2' o3' o4' o5' o6' : List (Addr × Obj)), s' = { s with heap := h', toks := tk' } ∧ Fr h₀ L h' m' ∧ (∀ y : Str, y ∉ Mut → m' y = m y) ∧ m' "order" = some (.ref od') ∧
        Blk h₀ L h' ([(L + 1, oc')] :: [(od', PySem.W.listOf ovs'.toArray occ')] :: [(nm, PySem.W.listOf nvs.toArray nc)] :: o1' :: o2' :: o3' :: o4' :: o5' :: o6' :: post) ∧ oc'.data = .cell oco' ∧ IntsAre ovs' S'.ks ∧ Mid w p o A S' o1' o2' o3' o4' o5' o6' ∧ Pure p S') (fun _ _ => False) s := by
  show wpAny _ _ (execs ((theFor body).drop 0) _) _ _ s
  have Bk : Blk h₀ L s.heap ([(L + 1, oc)] :: [(nm, PySem.W.listOf nvs.toArray nc)] :: [(od, PySem.W.listOf ovs.toArray occ)] :: o1 :: o2 :: o3 :: o4 :: o5 :: o6 :: post) := B.perm (.cons _ (.swap _ _ _))
  have hne := cell_ne Bk
  refine execs_step 0 2 2 rfl (turn_key (rest := ([(od, PySem.W.listOf ovs.toArray occ)] :: o1 :: o2 :: o3 :: o4 :: o5 :: o6 :: post).flatten) hb F X T Bk.1 hoc hN (fun e => hne _ (.head _) e.symm) (fun q hq => hne q (.tail _ hq)) hm.numbers hmk hk hk2 hz) ?_
  rintro f s1 ⟨rfl, h1, tk1, oc1, tA, tB, rfl, F1, N1, hoc1⟩
  refine ⟨rfl, ?_⟩
  have B1 : Blk h₀ L h1 ([(L + 1, oc1)] :: [(od, PySem.W.listOf ovs.toArray occ)] :: [(nm, PySem.W.listOf nvs.toArray nc)] :: o1 :: o2 :: o3 :: o4 :: o5 :: o6 :: post) := (Blk.redo (pre := []) (b' := [(L + 1, oc1)]) Bk N1 rfl).perm (.cons _ (.swap _ _ _))
  have hkd : kindOf ns k = 0 ∨ kindOf ns k = 1 ∨ kindOf ns k = 2 ∨ kindOf ns k = 3 := kind_is _
  generalize kindOf ns k = kind at F1 hkd
  generalize keyOf ns k = key at hoc1
  have g1 : ∀ y : Str, y ≠ "kind" → (fun y : Str => if y = "kind" then some (Value.int kind tA) else m y) y = m y := fun y hy => if_neg hy
  have kd1 : (fun y : Str => if y = "kind" then some (Value.int kind tA) else m y) "kind" = some (.int kind tA) := if_pos rfl
  generalize (fun y : Str => if y = "kind" then some (Value.int kind tA) else m y) = m1 at F1 g1 kd1
  -- the order
  obtain ⟨f1, f2, f3, nd, fl⟩ := ordS_front M.c1
  obtain ⟨tp, hpl⟩ := hm.places
  refine execs_step 2 2 4 rfl (seg_order (kind := kind) (key := key) (p := p) hb F1 X T B1 hoc1 hO ((g1 _ (by decide)).trans hmo) kd1 ((g1 _ (by decide)).trans hpl) hkd hp hp4 nd (by have := P.z1; omega)) ?_
  rintro f s2 ⟨rfl, h2, tk2, D, ovs', occ', m2, rfl, F2, hmo2, g2, B2, hO2⟩
  refine ⟨rfl, ?_⟩
  have hp8 : p ≤ 8 := by omega
  have iv : IsI (.int k t) := ⟨k, t, rfl⟩
  have kd2 : m2 "kind" = some (.int kind tA) := (g2 _ (by decide)).trans kd1
  have kk2 : m2 "k" = some (.int k t) := (g2 _ (by decide)).trans ((g1 _ (by decide)).trans hmk)
  have nm2 : Nm m2 nm p o A := hm.to fun y hy => (g2 y (fun e => hy (by rw [e]; decide))).trans (g1 y (fun e => hy (by rw [e]; decide)))
  -- the LRU pair
  refine execs_step 4 2 6 rfl (seg_told1 (pre := [[(D, PySem.W.listOf ovs'.toArray occ')], [(nm, PySem.W.listOf nvs.toArray nc)]]) hb F2 X T B2 hoc1 nm2.r1 nm2.r2 kd2 kk2 hdp hun (told_ok (kind := kind) (key := key) (fr := S.ks.head?) P.i1) (lru_use M.c1 P.z1 hp hp8 hkd) (lru_use M.c2 P.z1 hp hp8 hkd)) ?_
  rintro f s3 ⟨rfl, h3, tk3, q1, q2, m3, rfl, F3, g3, B3, M1, M2⟩
  refine ⟨rfl, ?_⟩
  have PN := M.pure P hp kind key iv
  have kd3 := (g3 "kind" (by decide)).trans kd2
  have nm3 : Nm m3 nm p o A := nm2.to fun y hy => g3 y (fun e => hy (by rw [e]; decide))
  obtain ⟨t_o, hof⟩ := nm3.often
  replace B3 : Blk h₀ L h3 ([(L + 1, oc1)] :: [(D, PySem.W.listOf ovs'.toArray occ')] :: [(nm, PySem.W.listOf nvs.toArray nc)] :: q1 :: q2 :: o3 :: o4 :: o5 :: o6 :: post) := B3
  have ag1 : wpAny (model lawProg w) ((aTop dp un gd (some [])).deeper (envOfC "law" scope L a cd)) (execs (((theFor body).drop 6).take 1) (envOfC "law" scope L a cd))
      (fun f s' => f = .next ∧ ∃ h' tk' ow' m', s' = { s with heap := h', toks := tk' } ∧ Fr h₀ L h' m' ∧ (∀ y : Str, y ≠ "again" → m' y = m3 y) ∧ Blk h₀ L h' ([(L + 1, oc1)] :: [(D, PySem.W.listOf ovs'.toArray occ')] :: [(nm, PySem.W.listOf nvs.toArray nc)] :: q1 :: ow' :: o3 :: o4 :: o5 :: o6 :: post) ∧ OrdS w 1044 "_LRUCache__order" A.a2 p (S.next p kind key (.int k t)).kL (S.next p kind key (.int k t)).ks ow') (fun _ _ => False) { s with heap := h3, toks := tk3 } := by
    have Sg : ∀ (i : Nat) (own : List (Addr × Obj)), OrdS w 1044 "_LRUCache__order" A.a2 p (S.next p kind key (.int k t)).kL (readsN p key i (S.next p kind key (.int k t)).ks) own → Does w 550 4700 778 [.ref A.a2, .int key tB] own (fun r o' => OrdS w 1044 "_LRUCache__order" A.a2 p (S.next p kind key (.int k t)).kL (readsN p key (i + 1) (S.next p kind key (.int k t)).ks) o') := fun i own h => lru_again h (by have := PN.z1; omega)
    by_cases hk2' : kind < 2
    · have hst : lruNext p 1 key (S.next p kind key (.int k t)).ks = (S.next p kind key (.int k t)).ks := lru_still (p := p) (key := key) nd (show kind = 0 ∨ kind = 1 by omega)
      refine wpAny_mono (seg_again1 (n := o.toNat) (pre := [[(D, PySem.W.listOf ovs'.toArray occ')], [(nm, PySem.W.listOf nvs.toArray nc)], q1]) (post := o3 :: o4 :: o5 :: o6 :: post) (Ow := fun i own => OrdS w 1044 "_LRUCache__order" A.a2 p (S.next p kind key (.int k t)).kL (readsN p key i (S.next p kind key (.int k t)).ks) own) hb F3 X T B3 hoc1 nm3.r2 hof kd3 hdp hun hk2' ⟨ho4, ho2⟩ (range_fit ho2 ho4).1.1 (range_fit ho2 ho4).1.2 M2 (fun _ _ h => lru_inst h) Sg) ?_ fun _ _ e => e
      rintro f s' ⟨rfl, h', tk', ow', m', rfl, F', g', B', O'⟩
      exact ⟨rfl, h', tk', ow', m', rfl, F', g', B', by rw [readsN_same hst] at O'; exact O'⟩
    · refine wpAny_mono (seg_again2 (n := 0) (pre := [[(D, PySem.W.listOf ovs'.toArray occ')], [(nm, PySem.W.listOf nvs.toArray nc)], q1]) (post := o3 :: o4 :: o5 :: o6 :: post) (Ow := fun i own => OrdS w 1044 "_LRUCache__order" A.a2 p (S.next p kind key (.int k t)).kL (readsN p key i (S.next p kind key (.int k t)).ks) own) hb F3 X T B3 hoc1 nm3.r2 hof kd3 hdp hun hk2' ⟨ho4, ho2⟩ (by decide) (by decide) M2 (fun _ _ h => lru_inst h) Sg) ?_ fun _ _ e => e
      rintro f s' ⟨rfl, h', tk', ow', m', rfl, F', g', B', O'⟩
      exact ⟨rfl, h', tk', ow', m', rfl, F', g', B', O'⟩
  refine execs_step 6 1 7 rfl ag1 ?_
  clear ag1
  rintro f s4 ⟨rfl, h4, tk4, q2', m4, rfl, F4, g4, B4, M2'⟩
  refine ⟨rfl, ?_⟩
  clear M2 B3 B2 B1 Bk
  have kd4 := (g4 "kind" (by decide)).trans kd3
  have kk4 := (g4 "k" (by decide)).trans ((g3 "k" (by decide)).trans kk2)
  have nm4 : Nm m4 nm p o A := nm3.to fun y hy => g4 y (fun e => hy (by rw [e]; decide))
  obtain ⟨-, hlC, -, wf, pC⟩ := lfu_front M.c3
  -- the LFU pair
  have U4 := lfu_use (key := key) (t := tB) (t0 := tA) (v := .int k t) M.c4 P.z2 hp hp8 hkd
  unfold UseL at U4
  rw [keysOf_scale] at U4
  refine execs_step 7 2 9 rfl (seg_told2 (pre := [[(D, PySem.W.listOf ovs'.toArray occ')], [(nm, PySem.W.listOf nvs.toArray nc)], q1, q2']) (post := o5 :: o6 :: post) hb F4 X T B4 hoc1 nm4.r3 nm4.r4 kd4 kk4 hdp hun (told_ok (kind := kind) (key := key) (fr := (keysOf S.sh).head?) P.i2) (lfu_use M.c3 P.z2 hp hp8 hkd) U4) ?_
  rintro f s5 ⟨rfl, h5, tk5, q3, q4, m5, rfl, F5, g5, B5, M3, M4⟩
  refine ⟨rfl, ?_⟩
  clear B4 U4
  have kd5 := (g5 "kind" (by decide)).trans kd4
  have kk5 := (g5 "k" (by decide)).trans kk4
  have nm5 : Nm m5 nm p o A := nm4.to fun y hy => g5 y (fun e => hy (by rw [e]; decide))
  obtain ⟨t_o5, hof5⟩ := nm5.often
  replace B5 : Blk h₀ L h5 ([(L + 1, oc1)] :: [(D, PySem.W.listOf ovs'.toArray occ')] :: [(nm, PySem.W.listOf nvs.toArray nc)] :: q1 :: q2' :: q3 :: q4 :: o5 :: o6 :: post) := B5
  have pair := lfu_pair (mx := p) (kind := kind) (key := key) (len := S.kC.length) ho2 wf P.rise hkd (fun _ _ => by
    by_cases hlt : (S.kC.length : Int) < p
    · exact .inl hlt
    · refine .inr fun e => ?_
      have := pC.length_eq
      rw [e] at this
      simp only [List.length_map, keysOf, List.flatMap_nil, List.length_nil] at this
      omega)
  have ag2 : wpAny (model lawProg w) ((aTop dp un gd (some [])).deeper (envOfC "law" scope L a cd)) (execs (((theFor body).drop 9).take 1) (envOfC "law" scope L a cd))
      (fun f s' => f = .next ∧ ∃ h' tk' ow' m', s' = { s with heap := h', toks := tk' } ∧ Fr h₀ L h' m' ∧ (∀ y : Str, y ≠ "again" → m' y = m5 y) ∧ Blk h₀ L h' ([(L + 1, oc1)] :: [(D, PySem.W.listOf ovs'.toArray occ')] :: [(nm, PySem.W.listOf nvs.toArray nc)] :: q1 :: q2' :: q3 :: ow' :: o5 :: o6 :: post) ∧ Lfu w A.a4 p (S.next p kind key (.int k t)).kC (scale o (S.next p kind key (.int k t)).sh) ow') (fun _ _ => False) { s with heap := h5, toks := tk5 } := by
    have Sg : ∀ (i : Nat) (own : List (Addr × Obj)), Lfu w A.a4 p (S.next p kind key (.int k t)).kC (touches key i (lfuNext p kind key S.kC.length (scale o S.sh))) own → Does w 550 4700 778 [.ref A.a4, .int key tB] own (fun r o' => Lfu w A.a4 p (S.next p kind key (.int k t)).kC (touches key (i + 1) (lfuNext p kind key S.kC.length (scale o S.sh))) o') := fun i own h => (lfu_again h (by have := PN.z2; omega)).ex fun r o' h' => by rw [touches_snoc] at h'; exact h'
    by_cases hk2' : kind < 2
    · rw [if_pos hk2'] at pair
      refine wpAny_mono (seg_again3 (n := o.toNat - 1) (pre := [[(D, PySem.W.listOf ovs'.toArray occ')], [(nm, PySem.W.listOf nvs.toArray nc)], q1, q2', q3]) (post := o5 :: o6 :: post) (Ow := fun i own => Lfu w A.a4 p (S.next p kind key (.int k t)).kC (touches key i (lfuNext p kind key S.kC.length (scale o S.sh))) own) hb F5 X T B5 hoc1 nm5.r4 hof5 kd5 hdp hun hk2' ⟨ho4, ho2⟩ (range_fit ho2 ho4).2.1 (range_fit ho2 ho4).2.2 M4 (fun _ _ h => lfu_inst h) Sg) ?_ fun _ _ e => e
      rintro f s' ⟨rfl, h', tk', ow', m', rfl, F', g', B', O'⟩
      exact ⟨rfl, h', tk', ow', m', rfl, F', g', B', by rw [pair] at O'; exact O'⟩
    · rw [if_neg hk2'] at pair
      refine wpAny_mono (seg_again4 (n := 0) (pre := [[(D, PySem.W.listOf ovs'.toArray occ')], [(nm, PySem.W.listOf nvs.toArray nc)], q1, q2', q3]) (post := o5 :: o6 :: post) (Ow := fun i own => Lfu w A.a4 p (S.next p kind key (.int k t)).kC (touches key i (lfuNext p kind key S.kC.length (scale o S.sh))) own) hb F5 X T B5 hoc1 nm5.r4 hof5 kd5 hdp hun hk2' ⟨ho4, ho2⟩ (by decide) (by decide) M4 (fun _ _ h => lfu_inst h) Sg) ?_ fun _ _ e => e
      rintro f s' ⟨rfl, h', tk', ow', m', rfl, F', g', B', O'⟩
      exact ⟨rfl, h', tk', ow', m', rfl, F', g', B', by rw [touches, pair] at O'; exact O'⟩
  refine execs_step 9 1 10 rfl ag2 ?_
  clear ag2
  rintro f s6 ⟨rfl, h6, tk6, q4', m6, rfl, F6, g6, B6, M4'⟩
  refine ⟨rfl, ?_⟩
  clear M4 B5 pair
  have kd6 := (g6 "kind" (by decide)).trans kd5
  have kk6 := (g6 "k" (by decide)).trans kk5
  have nm6 : Nm m6 nm p o A := nm5.to fun y hy => g6 y (fun e => hy (by rw [e]; decide))
  -- the FIFO pair
  have told : wpAny (model lawProg w) ((aTop dp un gd (some [])).deeper (envOfC "law" scope L a cd)) (execs (((theFor body).drop 10).take 2) (envOfC "law" scope L a cd))
      (fun f s' => f = .next ∧ ∃ h' tk' ow5 ow6 m', s' = { s with heap := h', toks := tk' } ∧ Fr h₀ L h' m' ∧ (∀ y : Str, y ≠ "told" → m' y = m6 y) ∧ Blk h₀ L h' ([(L + 1, oc1)] :: [(D, PySem.W.listOf ovs'.toArray occ')] :: [(nm, PySem.W.listOf nvs.toArray nc)] :: q1 :: q2' :: q3 :: q4' :: ow5 :: ow6 :: post) ∧ OrdS w 882 "_FIFOCache__order" A.a5 p (S.next p kind key (.int k t)).kF (S.next p kind key (.int k t)).fs ow5 ∧ OrdS w 882 "_FIFOCache__order" A.a6 p (S.next p kind key (.int k t)).kF (S.next p kind key (.int k t)).fs ow6) (fun _ _ => False) { s with heap := h6, toks := tk6 } := by
    by_cases hk1 : kind = 1
    · refine wpAny_mono (seg_told4 (pre := [[(D, PySem.W.listOf ovs'.toArray occ')], [(nm, PySem.W.listOf nvs.toArray nc)], q1, q2', q3, q4']) (post := post) (P2 := fun ow => OrdS w 882 "_FIFOCache__order" A.a6 p S.kF S.fs ow) hb F6 X T B6 hoc1 nm6.r5 nm6.r6 kd6 kk6 hdp hun hk1 (told_ok (kind := kind) (key := key) (fr := S.fs.head?) P.i3) (fifo_use M.c5 P.z3 hp hp8 hkd) M.c6) ?_ fun _ _ e => e
      rintro f s' ⟨rfl, h', tk', ow5, ow6, m', rfl, F', g', B', O5, O6⟩
      refine ⟨rfl, h', tk', ow5, ow6, m', rfl, F', g', B', O5, ?_⟩
      have e1 : (S.next p kind key (.int k t)).kF = S.kF := by show dataNext p kind key (.int k t) S.fs.head? S.kF = S.kF; unfold dataNext; rw [hk1, if_neg (by decide), if_pos rfl]
      have e2 : (S.next p kind key (.int k t)).fs = S.fs := by show fifoNext p kind key S.fs = S.fs; unfold fifoNext; rw [hk1, if_neg (by decide), if_pos rfl]
      rw [e1, e2]
      exact O6
    · refine wpAny_mono (seg_told3 (pre := [[(D, PySem.W.listOf ovs'.toArray occ')], [(nm, PySem.W.listOf nvs.toArray nc)], q1, q2', q3, q4']) (post := post) hb F6 X T B6 hoc1 nm6.r5 nm6.r6 kd6 kk6 hdp hun hk1 (told_ok (kind := kind) (key := key) (fr := S.fs.head?) P.i3) (fifo_use M.c5 P.z3 hp hp8 hkd) (fifo_use M.c6 P.z3 hp hp8 hkd)) ?_ fun _ _ e => e
      rintro f s' ⟨rfl, h', tk', ow5, ow6, m', rfl, F', g', B', O5, O6⟩
      exact ⟨rfl, h', tk', ow5, ow6, m', rfl, F', g', B', O5, O6⟩
  refine execs_step 10 2 12 rfl told ?_
  clear told
  rintro f s7 ⟨rfl, h7, tk7, q5, q6, m7, rfl, F7, g7, B7, M5, M6⟩
  refine ⟨rfl, ?_⟩
  clear B6
  have kd7 := (g7 "kind" (by decide)).trans kd6
  have nm7 : Nm m7 nm p o A := nm6.to fun y hy => g7 y (fun e => hy (by rw [e]; decide))
  -- the checks
  have b1 : (S.next p kind key (.int k t)).kL.length ≤ 64 := by have := PN.z1; omega
  have b2 : (S.next p kind key (.int k t)).kC.length ≤ 64 := by have := PN.z2; omega
  have b3 : (S.next p kind key (.int k t)).kF.length ≤ 64 := by have := PN.z3; omega
  have d1 : (S.next p kind key (.int k t)).kL.length < 64 := by have := PN.z1; omega
  have d2 : (S.next p kind key (.int k t)).kC.length < 64 := by have := PN.z2; omega
  have d3 : (S.next p kind key (.int k t)).kF.length < 64 := by have := PN.z3; omega
  have pm : ([(L + 1, oc1)] :: [(D, PySem.W.listOf ovs'.toArray occ')] :: [(nm, PySem.W.listOf nvs.toArray nc)] :: q1 :: q2' :: q3 :: q4' :: q5 :: q6 :: post).Perm ([(L + 1, oc1)] :: q1 :: q2' :: q3 :: q4' :: q5 :: q6 :: [(D, PySem.W.listOf ovs'.toArray occ')] :: [(nm, PySem.W.listOf nvs.toArray nc)] :: post) :=
    .cons _ (List.perm_append_comm_assoc [[(D, PySem.W.listOf ovs'.toArray occ')], [(nm, PySem.W.listOf nvs.toArray nc)]] [q1, q2', q3, q4', q5, q6] post)
  refine wpAny_mono (seg_checks (post := [(D, PySem.W.listOf ovs'.toArray occ')] :: [(nm, PySem.W.listOf nvs.toArray nc)] :: post) hb F7 X T (B7.perm pm) hoc1 nm7.r1 nm7.r2 nm7.r3 nm7.r4 nm7.r5 nm7.r6 kd7 hdp hun (lru_cch M1 b1) (lru_cch M2' b1) (lfu_cch M3 b2) (lfu_cch M4' b2) (fifo_cch M5 b3) (fifo_cch M6 b3) d1 d1 d2 d2 d3 d3 (.refl _) (.refl _) (.refl _) has_next has_next has_next) ?_ fun _ _ e => e
  rintro f s8 ⟨rfl, h8, tk8, m8, rfl, F8, g8, B8⟩
  refine ⟨rfl, h8, tk8, m8, oc1, _, D, ovs', occ', S.next p kind key (.int k t), q1, q2', q3, q4', q5, q6, rfl, F8, ?_, ?_, B8.perm pm.symm, hoc1, hO2, ⟨M1, M2', M3, M4', M5, M6⟩, PN⟩
  · intro y hy
    have e1 := g8 y (fun e => hy (by rw [e]; decide)) (fun e => hy (by rw [e]; decide))
    have e2 := g7 y (fun e => hy (by rw [e]; decide))
    have e3 := g6 y (fun e => hy (by rw [e]; decide))
    have e4 := g5 y (fun e => hy (by rw [e]; decide))
    have e5 := g4 y (fun e => hy (by rw [e]; decide))
    have e6 := g3 y (fun e => hy (by rw [e]; decide))
    have e7 := g2 y (fun e => hy (by rw [e]; decide))
    have e8 := g1 y (fun e => hy (by rw [e]; decide))
    rw [e1, e2, e3, e4, e5, e6, e7, e8]
  · have e1 := g8 "order" (by decide) (by decide)
    have e2 := g7 "order" (by decide)
    have e3 := g6 "order" (by decide)
    have e4 := g5 "order" (by decide)
    have e5 := g4 "order" (by decide)
    have e6 := g3 "order" (by decide)
    rw [e1, e2, e3, e4, e5, e6]
    exact hmo2
end
end
section
section
variable {w : World} {body : List Stmt} {scope : Scope} {h₀ : Heap} {L a : Addr} {cd : Value} {m : Str → Option Value} {mean : ExcName → Option Value} {mg mb : Str → Option Value} {s : Shared} {dp un : Nat} {gd : Option (List Code)} {a1 a2 od occ : Nat} {i p o : Int} {t : Tok} {kvs : List (Int × Value)} {ks : List Int} {sh : Sh} {ovs : List Value} {x TB c nb q1 q2 : List (Addr × Obj)} {pre tl : List (List (Addr × Obj))}
theorem empty_lru (hb : IsLaw w body scope) (F : Fr h₀ L s.heap m) (X : (hd.heap_39 w.params).In h₀) (T : Top hd.view_39 lawLoose mean mg mb h₀) (B : Blk h₀ L s.heap (x :: TB :: c :: [(od, PySem.W.listOf ovs.toArray occ)] :: nb :: q1 :: q2 :: tl))
    (hm1 : m "one" = some (.ref a1)) (hm2 : m "other" = some (.ref a2)) (hmw : m "which" = some (.int 0 t)) (hmo : m "order" = some (.ref od)) (hdp : dp ≤ 500) (hun : un ≤ 4000)
    (I1 : OrdS w 1044 "_LRUCache__order" a1 p kvs ks q1) (I2 : OrdS w 1044 "_LRUCache__order" a2 p kvs ks q2) (hO : IntsAre ovs ks) (hi : Ints kvs) (h4 : kvs.length ≤ 4) :
    wpAny (model lawProg w) ((aTop dp un gd (some [])).deeper (envOfC "law" scope L a cd)) (execs (theFor (body.drop 9)) (envOfC "law" scope L a cd))
      (fun f s' => f = .next ∧ ∃ (h' : Heap) (tk' : Nat) (m' : Str → Option Value) (ovs' : List Value) (occ' : Nat) (q1' q2' : List (Addr × Obj)), s' = { s with heap := h', toks := tk' } ∧ Fr h₀ L h' m' ∧ (∀ y : Str, y ≠ "gone" → m' y = m y) ∧ Blk h₀ L h' (x :: TB :: c :: [(od, PySem.W.listOf ovs'.toArray occ')] :: nb :: q1' :: q2' :: tl)) (fun _ _ => False) s := by
  have pm : ∀ ob z1 z2 : List (Addr × Obj), (x :: TB :: c :: ob :: nb :: z1 :: z2 :: tl).Perm (ob :: ([x, TB, c, nb] ++ z1 :: z2 :: tl)) := fun ob z1 z2 => List.perm_middle (l₁ := [x, TB, c])
  refine wpAny_mono (seg_empty (C := 1044) (n := kvs.length) (P := fun n bs => ∃ kvs ks ovs occ q1 q2, bs = x :: TB :: c :: [(od, PySem.W.listOf ovs.toArray occ)] :: nb :: q1 :: q2 :: tl ∧ OrdS w 1044 "_LRUCache__order" a1 p kvs ks q1 ∧ OrdS w 1044 "_LRUCache__order" a2 p kvs ks q2 ∧ IntsAre ovs ks ∧ Ints kvs ∧ kvs.length = n ∧ n ≤ 4)
    hb F X T B hm1 hm2 hdp hun (.inl rfl) ⟨kvs, ks, ovs, occ, q1, q2, rfl, I1, I2, hO, hi, rfl, h4⟩ ?_ ?_ ?_) ?_ fun _ _ e => e
  · rintro n bs ⟨kvs, ks, ovs, occ, q1, q2, rfl, I1, I2, hO, hi, hn, h4⟩
    exact ⟨[x, TB, c, [(od, PySem.W.listOf ovs.toArray occ)], nb], q2 :: tl, kvs, q1, rfl, lru_cch I1 (by omega), hn, by omega⟩
  · rintro n bs ⟨kvs, ks, ovs, occ, q1, q2, rfl, I1, I2, hO, hi, hn, h4⟩
    exact ⟨[x, TB, c, [(od, PySem.W.listOf ovs.toArray occ)], nb, q1], tl, kvs, q2, rfl, lru_cch I2 (by omega), hn, by omega⟩
  · rintro n s₁ m₁ bs₁ ⟨kvs, ks, ovs, occ, q1, q2, rfl, I1, I2, hO, hi, hn, h4⟩ hm F₁ B₁
    obtain ⟨f1, f2, f3, f4, f5⟩ := ordS_front I1
    cases ks with
    | nil => simp only [List.length_nil] at f5; omega
    | cons k0 ks =>
      obtain ⟨v0, hv⟩ := some_of (f1 k0 rfl)
      have hol := IntsAre.length hO
      cases ovs with
      | nil => simp only [List.length_nil, List.length_cons] at hol; omega
      | cons y ovs =>
        have hO' : IntsAre ovs ks := by cases hO; assumption
        simp only [List.length_cons] at hol f5
        have hlen := len_without_nodup f3 (valueAt_mem.mp (f1 k0 rfl))
        refine wpAny_mono (seg_pop0 (i := 0) (pre := [x, TB, c, nb]) (post := tl) (ks := ks) hb F₁ X T (B₁.perm (pm _ _ _)) ((hm _ (by decide)).trans hm1) ((hm _ (by decide)).trans hm2) ((hm _ (by decide)).trans hmw) rfl ((hm _ (by decide)).trans hmo) hO (by omega) hdp hun (ints_at hi hv) (lru_inst I1) (lru_inst I2) (lru_out I1 hv (by omega)) (lru_out I2 hv (by omega))) ?_ fun _ _ e => e
        rintro f s' ⟨rfl, h', tk', q1', q2', m', rfl, F', g', B', J1, J2⟩
        exact ⟨rfl, h', tk', m', _, rfl, F', g', B'.perm (pm _ _ _).symm, without kvs k0, ks, ovs, occ + 1, q1', q2', rfl, J1, J2, hO', ints_without hi, by omega, by omega⟩
  · rintro f s' ⟨rfl, h', tk', m', bs', rfl, F', g', B', kvs, ks, ovs, occ, q1, q2, rfl, -⟩
    exact ⟨rfl, h', tk', m', ovs, occ, q1, q2, rfl, F', g', B'⟩
theorem empty_lfu (hb : IsLaw w body scope) (F : Fr h₀ L s.heap m) (X : (hd.heap_39 w.params).In h₀) (T : Top hd.view_39 lawLoose mean mg mb h₀) (B : Blk h₀ L s.heap (pre ++ q1 :: q2 :: tl))
    (hm1 : m "one" = some (.ref a1)) (hm2 : m "other" = some (.ref a2)) (hmw : m "which" = some (.int i t)) (hi0 : i ≠ 0) (hdp : dp ≤ 500) (hun : un ≤ 4000)
    (I1 : Lfu w a1 p kvs sh q1) (I2 : Lfu w a2 p kvs (scale o sh) q2) (hi : Ints kvs) (h4 : kvs.length ≤ 4) :
    wpAny (model lawProg w) ((aTop dp un gd (some [])).deeper (envOfC "law" scope L a cd)) (execs (theFor (body.drop 9)) (envOfC "law" scope L a cd))
      (fun f s' => f = .next ∧ ∃ (h' : Heap) (tk' : Nat) (m' : Str → Option Value) (q1' q2' : List (Addr × Obj)), s' = { s with heap := h', toks := tk' } ∧ Fr h₀ L h' m' ∧ (∀ y : Str, y ≠ "gone" → m' y = m y) ∧ Blk h₀ L h' (pre ++ q1' :: q2' :: tl)) (fun _ _ => False) s := by
  refine wpAny_mono (seg_empty (C := 979) (n := kvs.length) (P := fun n bs => ∃ kvs sh q1 q2, bs = pre ++ q1 :: q2 :: tl ∧ Lfu w a1 p kvs sh q1 ∧ Lfu w a2 p kvs (scale o sh) q2 ∧ Ints kvs ∧ kvs.length = n ∧ n ≤ 4)
    hb F X T B hm1 hm2 hdp hun (.inr (.inl rfl)) ⟨kvs, sh, q1, q2, rfl, I1, I2, hi, rfl, h4⟩ ?_ ?_ ?_) ?_ fun _ _ e => e
  · rintro n bs ⟨kvs, sh, q1, q2, rfl, I1, I2, hi, hn, h4⟩
    exact ⟨pre, q2 :: tl, kvs, q1, rfl, lfu_cch I1 (by omega), hn, by omega⟩
  · rintro n bs ⟨kvs, sh, q1, q2, rfl, I1, I2, hi, hn, h4⟩
    exact ⟨pre ++ [q1], tl, kvs, q2, by rw [List.append_assoc]; rfl, lfu_cch I2 (by omega), hn, by omega⟩
  · rintro n s₁ m₁ bs₁ ⟨kvs, sh, q1, q2, rfl, I1, I2, hi, hn, h4⟩ hm F₁ B₁
    obtain ⟨f1, f2, f3, f4, f5⟩ := lfu_front I1
    cases e : (keysOf sh).head? with
    | none => have := f2 e; omega
    | some k0 =>
      obtain ⟨v0, hv⟩ := some_of (f1 k0 e)
      have hlen := len_without_nodup f3 (valueAt_mem.mp (f1 k0 e))
      refine wpAny_mono (seg_pop1 (pre := pre) (post := tl) hb F₁ X T B₁ ((hm _ (by decide)).trans hm1) ((hm _ (by decide)).trans hm2) ((hm _ (by decide)).trans hmw) hi0 hdp hun (ints_at hi hv) (lfu_inst I1) (lfu_inst I2) (lfu_out I1 e hv (by omega)) (lfu_out I2 (by rw [keysOf_scale]; exact e) hv (by omega))) ?_ fun _ _ e => e
      rintro f s' ⟨rfl, h', tk', q1', q2', m', rfl, F', g', B', J1, J2⟩
      exact ⟨rfl, h', tk', m', _, rfl, F', g', B', without kvs k0, dch k0 sh, q1', q2', rfl, J1, by rw [← dch_scale]; exact J2, ints_without hi, by omega, by omega⟩
  · rintro f s' ⟨rfl, h', tk', m', bs', rfl, F', g', B', kvs, sh, q1, q2, rfl, -⟩
    exact ⟨rfl, h', tk', m', q1, q2, rfl, F', g', B'⟩
theorem empty_fifo (hb : IsLaw w body scope) (F : Fr h₀ L s.heap m) (X : (hd.heap_39 w.params).In h₀) (T : Top hd.view_39 lawLoose mean mg mb h₀) (B : Blk h₀ L s.heap (pre ++ q1 :: q2 :: tl))
    (hm1 : m "one" = some (.ref a1)) (hm2 : m "other" = some (.ref a2)) (hmw : m "which" = some (.int i t)) (hi0 : i ≠ 0) (hdp : dp ≤ 500) (hun : un ≤ 4000)
    (I1 : OrdS w 882 "_FIFOCache__order" a1 p kvs ks q1) (I2 : OrdS w 882 "_FIFOCache__order" a2 p kvs ks q2) (hi : Ints kvs) (h4 : kvs.length ≤ 4) :
    wpAny (model lawProg w) ((aTop dp un gd (some [])).deeper (envOfC "law" scope L a cd)) (execs (theFor (body.drop 9)) (envOfC "law" scope L a cd))
      (fun f s' => f = .next ∧ ∃ (h' : Heap) (tk' : Nat) (m' : Str → Option Value) (q1' q2' : List (Addr × Obj)), s' = { s with heap := h', toks := tk' } ∧ Fr h₀ L h' m' ∧ (∀ y : Str, y ≠ "gone" → m' y = m y) ∧ Blk h₀ L h' (pre ++ q1' :: q2' :: tl)) (fun _ _ => False) s := by
  refine wpAny_mono (seg_empty (C := 882) (n := kvs.length) (P := fun n bs => ∃ kvs ks q1 q2, bs = pre ++ q1 :: q2 :: tl ∧ OrdS w 882 "_FIFOCache__order" a1 p kvs ks q1 ∧ OrdS w 882 "_FIFOCache__order" a2 p kvs ks q2 ∧ Ints kvs ∧ kvs.length = n ∧ n ≤ 4)
    hb F X T B hm1 hm2 hdp hun (.inr (.inr rfl)) ⟨kvs, ks, q1, q2, rfl, I1, I2, hi, rfl, h4⟩ ?_ ?_ ?_) ?_ fun _ _ e => e
  · rintro n bs ⟨kvs, ks, q1, q2, rfl, I1, I2, hi, hn, h4⟩
    exact ⟨pre, q2 :: tl, kvs, q1, rfl, fifo_cch I1 (by omega), hn, by omega⟩
  · rintro n bs ⟨kvs, ks, q1, q2, rfl, I1, I2, hi, hn, h4⟩
    exact ⟨pre ++ [q1], tl, kvs, q2, by rw [List.append_assoc]; rfl, fifo_cch I2 (by omega), hn, by omega⟩
  · rintro n s₁ m₁ bs₁ ⟨kvs, ks, q1, q2, rfl, I1, I2, hi, hn, h4⟩ hm F₁ B₁
    obtain ⟨f1, f2, f3, f4, f5⟩ := ordS_front I1
    cases ks with
    | nil => simp only [List.length_nil] at f5; omega
    | cons k0 ks =>
      obtain ⟨v0, hv⟩ := some_of (f1 k0 rfl)
      have hlen := len_without_nodup f3 (valueAt_mem.mp (f1 k0 rfl))
      refine wpAny_mono (seg_pop2 (pre := pre) (post := tl) hb F₁ X T B₁ ((hm _ (by decide)).trans hm1) ((hm _ (by decide)).trans hm2) ((hm _ (by decide)).trans hmw) hi0 hdp hun (ints_at hi hv) (fifo_inst I1) (fifo_inst I2) (fifo_out I1 hv (by omega)) (fifo_out I2 hv (by omega))) ?_ fun _ _ e => e
      rintro f s' ⟨rfl, h', tk', q1', q2', m', rfl, F', g', B', J1, J2⟩
      exact ⟨rfl, h', tk', m', _, rfl, F', g', B', without kvs k0, ks, q1', q2', rfl, J1, J2, ints_without hi, by omega, by omega⟩
  · rintro f s' ⟨rfl, h', tk', m', bs', rfl, F', g', B', kvs, ks, q1, q2, rfl, -⟩
    exact ⟨rfl, h', tk', m', q1, q2, rfl, F', g', B'⟩
end
end
section
section
variable {w : World} {body : List Stmt} {scope : Scope} {h₀ : Heap} {L a l : Addr} {cd : Value} {m : Str → Option Value} {mean : ExcName → Option Value} {mg mb : Str → Option Value} {s : Shared} {dp un : Nat} {gd : Option (List Code)} {oc : Obj} {oco : Option Value} {vs : List Value} {ns : List Int}
theorem pure0 {p : Int} (hp : 1 ≤ p) : Pure p ⟨[], [], [], [], [], []⟩ := ⟨by show (0 : Int) ≤ p; omega, by show (0 : Int) ≤ p; omega, by show (0 : Int) ≤ p; omega, fun _ h => (by cases h), fun _ h => (by cases h), fun _ h => (by cases h), List.Pairwise.nil⟩
set_option maxHeartbeats 1000000 in
theorem law_body (hb : IsLaw w body scope) (F : Fr h₀ L s.heap m) (X : (hd.heap_39 w.params).In h₀) (T : Top hd.view_39 lawLoose mean mg mb h₀) (N : News h₀ L s.heap [(L + 1, oc)]) (hoc : oc.data = .cell oco)
    (hl : h₀.IsList l vs.toArray) (hI : IntsAre vs ns) (hz : ns.length ≤ 63) (hms : m "script" = some (.ref l)) (hdp : dp ≤ 500) (hun : un ≤ 4000) :
    wpAny (model lawProg w) ((aTop dp un gd (some [])).deeper (envOfC "law" scope L a cd)) (execs body (envOfC "law" scope L a cd))
      (fun f s' => f = .ret (.bool true) ∧ ∃ (h' : Heap) (tk' : Nat) (m' : Str → Option Value) (bs' : List (List (Addr × Obj))), s' = { s with heap := h', toks := tk' } ∧ Fr h₀ L h' m' ∧ Blk h₀ L h' bs') (fun _ _ => False) s := by
  show wpAny _ _ (execs (body.drop 0) _) _ _ s
  refine execs_step 0 3 3 rfl (law_top1 hb F X T N hl hI hz hms) ?_
  rintro f s1 ⟨rfl, h1, tk1, D, nvs, m1, p, o, tp, to, rfl, F1, k1, k2, k3, k4, N1, hD, hN, hp, hp4, ho2, ho4⟩
  refine ⟨rfl, ?_⟩
  have B1 : Blk h₀ L h1 [[(D, PySem.W.listOf nvs.toArray 0)], [(L + 1, oc)]] := ⟨N1, List.pairwise_cons.mpr ⟨fun c hc => by
    rw [List.mem_singleton.mp hc]
    refine apart_ofNe fun z hz q hq => ?_
    rw [List.mem_singleton.mp hz, List.mem_singleton.mp hq]
    exact (Nat.ne_of_lt hD).symm, List.pairwise_cons.mpr ⟨fun c hc => (by cases hc), List.Pairwise.nil⟩⟩⟩
  refine execs_step 3 4 7 rfl (law_top2 hb F1 X T B1 k2 hp hdp hun) ?_
  rintro f s2 ⟨rfl, h2, tk2, od, a1, a2, a3, a4, a5, a6, o1, o2, o3, o4, o5, o6, m2, rfl, F2, j0, j1, j2, j3, j4, j5, j6, g2, B2, O1, O2, O3, O4, O5, O6⟩
  refine ⟨rfl, ?_⟩
  have nm2 : Nm m2 D p o ⟨a1, a2, a3, a4, a5, a6⟩ := ⟨(g2 _ (by decide)).trans k1, ⟨tp, (g2 _ (by decide)).trans k2⟩, ⟨to, (g2 _ (by decide)).trans k3⟩, j1, j2, j3, j4, j5, j6⟩
  have hms2 : m2 "script" = some (.ref l) := (g2 _ (by decide)).trans k4
  -- the loop
  refine execs_step 7 1 8 rfl (law_loop (P := fun m₁ bs₁ => ∃ (oc' : Obj) (oco' : Option Value) (od' : Nat) (ovs' : List Value) (occ' : Nat) (S' : PS) (o1' o2' o3' o4' o5' o6' : List (Addr × Obj)), bs₁ = [(L + 1, oc')] :: [(od', PySem.W.listOf ovs'.toArray occ')] :: [(D, PySem.W.listOf nvs.toArray 0)] :: o1' :: o2' :: o3' :: o4' :: o5' :: o6' :: [] ∧
      (∀ y : Str, y ∉ Mut → m₁ y = m2 y) ∧ m₁ "order" = some (.ref od') ∧ oc'.data = .cell oco' ∧ IntsAre ovs' S'.ks ∧ Mid w p o ⟨a1, a2, a3, a4, a5, a6⟩ S' o1' o2' o3' o4' o5' o6' ∧ Pure p S') hb F2 X T B2 hl hI hz hms2
      ⟨oc, oco, od, [], 0, ⟨[], [], [], [], [], []⟩, o1, o2, o3, o4, o5, o6, rfl, fun _ _ => rfl, j0, hoc, .nil, ⟨O1, O2, O3, O4, O5, O6⟩, pure0 hp⟩ ?_) ?_
  · rintro s₁ m₁ k t bs₁ x hk hk2 ⟨oc', oco', od', ovs', occ', S', o1', o2', o3', o4', o5', o6', rfl, gm, gmo, hoc', hO', M', P'⟩ F₁ B₁
    have pm : ∀ (c y z z1 z2 z3 z4 z5 z6 : List (Addr × Obj)), (x :: c :: y :: z :: z1 :: z2 :: z3 :: z4 :: z5 :: z6 :: []).Perm (c :: y :: z :: z1 :: z2 :: z3 :: z4 :: z5 :: z6 :: x :: []) := fun c y z z1 z2 z3 z4 z5 z6 => List.perm_append_comm (l₁ := [x]) (l₂ := [c, y, z, z1, z2, z3, z4, z5, z6])
    have gk : ∀ y : Str, y ∉ Mut → (if y = "k" then some (Value.int k t) else m₁ y) = m2 y := fun y hy => (if_neg (fun e => hy (by rw [e]; decide))).trans (gm y hy)
    have hlen : (ns.take 26 ++ [0, 0]).length = (ns.take 26).length + 2 := by rw [List.length_append]; rfl
    have hl26 : (ns.take 26).length ≤ ns.length := by rw [List.length_take]; omega
    have hl27 : (ns.take 26).length ≤ 26 := by rw [List.length_take]; omega
    refine wpAny_mono (the_turn hb F₁ X T (B₁.perm (pm _ _ _ _ _ _ _ _ _)) hoc' hN hO' (nm2.to gk) ((if_neg (by decide)).trans gmo) (if_pos rfl) hk (by omega) (by omega) M' P' hp hp4 ho2 ho4 hdp hun) ?_ fun _ _ e => e
    rintro f s' ⟨rfl, h3, tk3, m3, oc3, oco3, od3, ovs3, occ3, S3, q1, q2, q3, q4, q5, q6, rfl, F3, g3, go3, B3, hoc3, hO3, M3, P3⟩
    exact ⟨rfl, h3, tk3, m3, _, rfl, F3, B3.perm (pm _ _ _ _ _ _ _ _ _).symm, oc3, oco3, od3, ovs3, occ3, S3, q1, q2, q3, q4, q5, q6, rfl, fun y hy => (g3 y hy).trans (gk y hy), go3, hoc3, hO3, M3, P3⟩
  rintro f s3 ⟨rfl, h3, tk3, m3, bs3, rfl, F3, B3, oc3, oco3, od3, ovs3, occ3, S, q1, q2, q3, q4, q5, q6, rfl, g3, go3, hoc3, hO3, M, P⟩
  refine ⟨rfl, ?_⟩
  have nm3 := nm2.to g3
  have b1 : S.kL.length ≤ 4 := by have := P.z1; omega
  have b2 : S.kC.length ≤ 4 := by have := P.z2; omega
  have b3 : S.kF.length ≤ 4 := by have := P.z3; omega
  obtain ⟨da, dd, odd, OO, permL⟩ := M.c1
  -- sorted(recent), sorted(order)
  have pm8 : ([(L + 1, oc3)] :: [(od3, PySem.W.listOf ovs3.toArray occ3)] :: [(D, PySem.W.listOf nvs.toArray 0)] :: q1 :: q2 :: q3 :: q4 :: q5 :: q6 :: []).Perm ([(od3, PySem.W.listOf ovs3.toArray occ3)] :: ([[(L + 1, oc3)], [(D, PySem.W.listOf nvs.toArray 0)]] ++ q1 :: q2 :: q3 :: q4 :: q5 :: q6 :: [])) := List.Perm.swap _ _ _
  refine execs_step 8 1 9 rfl (law_order hb F3 X T (B3.perm pm8) go3 nm3.r1 hO3 (lru_cch M.c1 (by omega)) (by omega) permL hdp hun) ?_
  rintro f s4 ⟨rfl, h4, tk4, rfl, F4, B4⟩
  refine ⟨rfl, ?_⟩
  have B5 := B4.perm pm8.symm
  -- the last loop
  refine wpAny_mono (law_last (bs := [(od3, PySem.W.listOf ovs3.toArray occ3)] :: [(D, PySem.W.listOf nvs.toArray 0)] :: q1 :: q2 :: q3 :: q4 :: q5 :: q6 :: [])
    (Q0 := fun bs => bs = [(L + 1, oc3)] :: [(od3, PySem.W.listOf ovs3.toArray occ3)] :: [(D, PySem.W.listOf nvs.toArray 0)] :: q1 :: q2 :: q3 :: q4 :: q5 :: q6 :: [])
    (Q1 := fun bs => ∃ ovs' occ' q1' q2', bs = [(L + 1, oc3)] :: [(od3, PySem.W.listOf (ovs' : List Value).toArray occ')] :: [(D, PySem.W.listOf nvs.toArray 0)] :: q1' :: q2' :: q3 :: q4 :: q5 :: q6 :: [])
    (Q2 := fun bs => ∃ c' c2' c3' q1' q2' q3' q4', bs = c' :: c2' :: c3' :: q1' :: q2' :: q3' :: q4' :: q5 :: q6 :: [])
    (Q3 := fun _ => True) hb F4 X T B5 rfl nm3.r1 nm3.r2 nm3.r3 nm3.r4 nm3.r5 nm3.r6 ?_ ?_ ?_) ?_ fun _ _ e => e
  · rintro s₁ m₁ t bs₁ x TB rfl hm F₁ B₁
    refine wpAny_mono (empty_lru hb F₁ X T B₁ ((if_neg (by decide)).trans (if_pos rfl)) (if_pos rfl) ((if_neg (by decide)).trans ((if_neg (by decide)).trans (if_pos rfl))) ((if_neg (by decide)).trans ((if_neg (by decide)).trans ((if_neg (by decide)).trans ((hm _ (by decide)).trans go3)))) hdp hun M.c1 M.c2 hO3 P.i1 b1) ?_ fun _ _ e => e
    rintro f s' ⟨rfl, h', tk', m', ovs', occ', q1', q2', rfl, F', g', B'⟩
    refine ⟨rfl, h', tk', m', _, rfl, F', fun y hy => ?_, B', ovs', occ', q1', q2', rfl⟩
    exact (g' y (fun e => hy (by rw [e]; decide))).trans ((if_neg (fun e => hy (by rw [e]; decide))).trans ((if_neg (fun e => hy (by rw [e]; decide))).trans ((if_neg (fun e => hy (by rw [e]; decide))).trans (hm y hy))))
  · rintro s₁ m₁ t bs₁ x TB ⟨ovs', occ', q1', q2', rfl⟩ hm F₁ B₁
    refine wpAny_mono (empty_lfu (i := 1) (pre := [x, TB, [(L + 1, oc3)], [(od3, PySem.W.listOf ovs'.toArray occ')], [(D, PySem.W.listOf nvs.toArray 0)], q1', q2']) (tl := q5 :: q6 :: []) hb F₁ X T B₁ ((if_neg (by decide)).trans (if_pos rfl)) (if_pos rfl) ((if_neg (by decide)).trans ((if_neg (by decide)).trans (if_pos rfl))) (by decide) hdp hun M.c3 M.c4 P.i2 b2) ?_ fun _ _ e => e
    rintro f s' ⟨rfl, h', tk', m', q3', q4', rfl, F', g', B'⟩
    refine ⟨rfl, h', tk', m', _, rfl, F', fun y hy => ?_, B', _, _, _, q1', q2', q3', q4', rfl⟩
    exact (g' y (fun e => hy (by rw [e]; decide))).trans ((if_neg (fun e => hy (by rw [e]; decide))).trans ((if_neg (fun e => hy (by rw [e]; decide))).trans ((if_neg (fun e => hy (by rw [e]; decide))).trans (hm y hy))))
  · rintro s₁ m₁ t bs₁ x TB ⟨c', c2', c3', q1', q2', q3', q4', rfl⟩ hm F₁ B₁
    refine wpAny_mono (empty_fifo (i := 2) (pre := [x, TB, c', c2', c3', q1', q2', q3', q4']) (tl := []) hb F₁ X T B₁ ((if_neg (by decide)).trans (if_pos rfl)) (if_pos rfl) ((if_neg (by decide)).trans ((if_neg (by decide)).trans (if_pos rfl))) (by decide) hdp hun M.c5 M.c6 P.i3 b3) ?_ fun _ _ e => e
    rintro f s' ⟨rfl, h', tk', m', q5', q6', rfl, F', g', B'⟩
    refine ⟨rfl, h', tk', m', _, rfl, F', fun y hy => ?_, B', trivial⟩
    exact (g' y (fun e => hy (by rw [e]; decide))).trans ((if_neg (fun e => hy (by rw [e]; decide))).trans ((if_neg (fun e => hy (by rw [e]; decide))).trans ((if_neg (fun e => hy (by rw [e]; decide))).trans (hm y hy))))
  · rintro f s' ⟨rfl, h', tk', m', bs', rfl, F', B', -⟩
    exact ⟨rfl, h', tk', m', bs', rfl, F', B'⟩
end
end
end Mine
open Mine
set_option maxHeartbeats 8000000 in
theorem PySem.Challenge.cw_bg0027_01_holds : PySem.Challenge.rw_bg0027_01.Holds := by
  refine Mine.hd ?_
  w_on
  k_go0
  (with_reducible rename Fr _ _ _ _ => F)
  (with_reducible rename News _ _ _ _ => N)
  (with_reducible rename Top _ _ _ _ _ _ => T)
  (with_reducible rename Frag.In _ _ => X)
  (with_reducible rename Heap.IsList _ _ _ => hl)
  (with_reducible rename IntsAre _ _ => hI)
  (with_reducible rename Obj.data _ = Data.cell _ => hoc)
  (with_reducible rename ¬ _ < _ => hz)
  refine wpAny_mono (Mine.law_body (w := _) (dp := 1 + claimMargin) (un := 4) (gd := some []) ⟨_, _, _, _, _, _, _, _, _, _, _, _, _, by k_is⟩ F X T N hoc hl hI (by omega) rfl (by decide) (by decide)) ?_ ?_
  · rintro f s' ⟨rfl, h', tk', m', bs', rfl, F', B'⟩
    have N' := B'.1
    clear B'
    try dsimp only
    k_steps
  · exact fun _ _ h => h.elim
